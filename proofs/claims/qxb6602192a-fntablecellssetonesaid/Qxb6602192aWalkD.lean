/-
  The walk of ZZTableCells.
-/
import Derived.Test.Qxb6602192aWalkC
import Derived.BigRegion
namespace Go.Proofs.Qxb6602192a
open Go.RowKit

theorem Try.info58 : (Try.prog.info? 58).map (fun i => (i.zero, i.size, i.bytes)) = some (some (.agg #[.int .u64 0, .int .u64 0, .bool false]), 3, 24) := by kernel_rfl
theorem Try.info56 : (Try.prog.info? 56).map (fun i => (i.zero, i.size, i.bytes)) = some (some (.slice none 0 0), 1, 24) := by kernel_rfl
theorem Try.info3 : (Try.prog.info? 3).map (fun i => (i.zero, i.size, i.bytes)) = some (some (.int .i64 0), 1, 8) := by kernel_rfl
theorem q63 : ∀ (w : World) (a : Option Addr) (n c n' c' : Nat), (binOp .eql 63 (.slice a n c) (.slice none n' c')).run Try.prog w = .ok (.bool a.isNone) w := fun w a n c n' c' => Lib.run_eql_slice_nil w _ _ a n c n' c' Try.underlying63

/-- 'make([]tableSlot, n)'. -/
theorem make_slots (n : Nat) (hn : n ≤ 1048576) (w : World) :
    (Instr.makeSlice 56 (.int .i64 (n : Int)) (.int .i64 (n : Int))).run Try.prog w = .ok (.slice (some ⟨w.heap.size, 0, none⟩) n n) (w.alloc (.cells (madeCells #[.int .u64 0, .int .u64 0, .bool false] (n * 3)) 58)) := by
  obtain ⟨i, hi, hz, hs, hb⟩ := info_parts Try.info58
  have hr := run_make (P := Try.prog) w 56 58 i _ Try.underlying56 hi hz .i64 .i64 n n (by omega) (Int.le_refl _) (by rw [hb]; omega) (by omega)
  simp only [Int.toNat_natCast, hs] at hr
  exact hr

/-- Cell j of a row of slots. -/
def slotV (T : Pl.Tab) (r j : Nat) : Value := if j % 3 = 0 then .int .u64 (T.hi r (j / 3)) else if j % 3 = 1 then .int .u64 (T.lo r (j / 3)) else .bool (T.ok r (j / 3))
def slotZ (j : Nat) : Value := if j % 3 = 0 then .int .u64 0 else if j % 3 = 1 then .int .u64 0 else .bool false

theorem rowIs_made3 (w : World) (n : Nat) : (w.alloc (.cells (madeCells #[.int .u64 0, .int .u64 0, .bool false] (n * 3)) 58)).rowIs w.heap.size 58 (n * 3) slotZ :=
  ⟨_, Deep.blk_alloc_new _ _, size_madeCells _ _, fun i hi => by
    have : i % 3 = 0 ∨ i % 3 = 1 ∨ i % 3 = 2 := by omega
    rcases this with h | h | h <;> simp [madeCells, hi, slotZ, h]⟩

/-- The table of slots, k rows of it made. -/
structure Sl (w wr : World) (G : Nat) (A : Nat → Option Addr) (T : Pl.Tab) (k : Nat) : Prop where
  since : w.Since w.heap.size wr
  size : wr.heap.size = w.heap.size + 1 + cnt A k
  top : wr.rowIs w.heap.size 56 G (fun r => if r < k then .slice (nA w.heap.size A r) (T.L r) (T.L r) else .slice none 0 0)
  row : ∀ r, r < k → (A r).isSome = true → wr.rowIs (w.heap.size + 1 + cnt A r) 58 (T.L r * 3) (slotV T r)

structure Sl2 (w wr : World) (G : Nat) (A : Nat → Option Addr) (T : Pl.Tab) (k c : Nat) : Prop where
  since : w.Since w.heap.size wr
  size : wr.heap.size = w.heap.size + 1 + cnt A k + 1
  top : wr.rowIs w.heap.size 56 G (fun r => if r < k then .slice (nA w.heap.size A r) (T.L r) (T.L r) else .slice none 0 0)
  row : ∀ r, r < k → (A r).isSome = true → wr.rowIs (w.heap.size + 1 + cnt A r) 58 (T.L r * 3) (slotV T r)
  cur : wr.rowIs (w.heap.size + 1 + cnt A k) 58 (T.L k * 3) (fun i => if i < c * 3 then slotV T k i else slotZ i)

section
variable {w wr : World} {G : Nat} {A : Nat → Option Addr} {T : Pl.Tab} {k c : Nat}

theorem sl_start (w : World) (G : Nat) (A : Nat → Option Addr) (T : Pl.Tab) : Sl w (w.alloc (.cells (madeCells #[.slice none 0 0] G) 56)) G A T 0 :=
  ⟨(World.Since.refl _ _).alloc (Nat.le_refl _) _, by simp [cnt], (World.rowIs_made w _ G 56).congr (fun j _ => by simp), fun _ h => by omega⟩

theorem sl_skip (h : Sl w wr G A T k) (hn : (A k).isSome = false) (hL : T.L k = 0) : Sl w wr G A T (k + 1) := by
  refine ⟨h.since, by rw [h.size]; simp [cnt, hn], h.top.congr (fun j _ => ?_), fun r hr hs => h.row r (by
    rcases Nat.lt_succ_iff_lt_or_eq.1 hr with h | h
    · exact h
    · subst h; rw [hn] at hs; cases hs) hs⟩
  by_cases e : j = k
  · subst e; simp [nA, hn, hL]
  · by_cases hlt : j < k
    · rw [if_pos hlt, if_pos (by omega)]
    · rw [if_neg hlt, if_neg (by omega)]

theorem sl2_start (h : Sl w wr G A T k) : Sl2 w (wr.alloc (.cells (madeCells #[.int .u64 0, .int .u64 0, .bool false] (T.L k * 3)) 58)) G A T k 0 := by
  have hnew := rowIs_made3 wr (T.L k)
  rw [h.size] at hnew
  exact ⟨h.since.alloc (by rw [h.size]; omega) _, by simp [h.size], h.top.alloc _, fun r hr hs => (h.row r hr hs).alloc _, hnew.congr (fun i _ => by simp)⟩

theorem sl2_step (h : Sl2 w wr G A T k c) :
    Sl2 w (((wr.setCell ⟨w.heap.size + 1 + cnt A k, c * 3, none⟩ (.int .u64 (T.hi k c))).setCell ⟨w.heap.size + 1 + cnt A k, c * 3 + 1, none⟩ (.int .u64 (T.lo k c))).setCell ⟨w.heap.size + 1 + cnt A k, c * 3 + 2, none⟩ (.bool (T.ok k c))).drew G A T k (c + 1) := by
  have hlo : ∀ o : Nat, w.heap.size ≤ (⟨w.heap.size + 1 + cnt A k, o, none⟩ : Addr).block := fun _ => by show w.heap.size ≤ w.heap.size + 1 + cnt A k; omega
  have hne : ∀ o : Nat, w.heap.size ≠ (⟨w.heap.size + 1 + cnt A k, o, none⟩ : Addr).block := fun _ => by show w.heap.size ≠ w.heap.size + 1 + cnt A k; omega
  refine ⟨(((h.since.setCell (hlo _) _).setCell (hlo _) _).setCell (hlo _) _).drew, by simpa using h.size, (((h.top.setOther (hne _) _).setOther (hne _) _).setOther (hne _) _).drew, fun r hr hs => ?_, ((((h.cur.set _ _).set _ _).set _ _).congr (fun i _ => ?_)).drew⟩
  · have hne' : ∀ o : Nat, w.heap.size + 1 + cnt A r ≠ (⟨w.heap.size + 1 + cnt A k, o, none⟩ : Addr).block := fun _ => by show w.heap.size + 1 + cnt A r ≠ w.heap.size + 1 + cnt A k; have := cnt_lt A hr hs; omega
    exact ((((h.row r hr hs).setOther (hne' _) _).setOther (hne' _) _).setOther (hne' _) _).drew
  · by_cases e2 : i = c * 3 + 2
    · subst e2
      rw [if_pos rfl, if_pos (by omega)]
      simp [slotV, show (c * 3 + 2) / 3 = c by omega]
    · rw [if_neg e2]
      by_cases e1 : i = c * 3 + 1
      · subst e1
        rw [if_pos rfl, if_pos (by omega)]
        simp [slotV, show (c * 3 + 1) / 3 = c by omega]
      · rw [if_neg e1]
        by_cases e0 : i = c * 3
        · subst e0
          rw [if_pos rfl, if_pos (by omega)]
          simp [slotV]
        · rw [if_neg e0]
          by_cases hlt : i < c * 3
          · rw [if_pos hlt, if_pos (by omega)]
          · rw [if_neg hlt, if_neg (by omega)]

theorem sl2_done (h : Sl2 w wr G A T k (T.L k)) (hs : (A k).isSome = true) : Sl w (wr.setCell ⟨w.heap.size, k, none⟩ (.slice (some ⟨w.heap.size + 1 + cnt A k, 0, none⟩) (T.L k) (T.L k))) G A T (k + 1) := by
  refine ⟨h.since.setCell (Nat.le_refl _) _, by simp [h.size, cnt, hs]; omega, (h.top.set k _).congr (fun j _ => ?_), fun r hr hs' => ?_⟩
  · by_cases e : j = k
    · subst e; simp [nA, hs]
    · rw [if_neg e]
      by_cases hlt : j < k
      · rw [if_pos hlt, if_pos (by omega)]
      · rw [if_neg hlt, if_neg (by omega)]
  · have hb : w.heap.size + 1 + cnt A r ≠ (⟨w.heap.size, k, none⟩ : Addr).block := by show w.heap.size + 1 + cnt A r ≠ w.heap.size; omega
    by_cases e : r = k
    · subst e; exact (h.cur.congr (fun i hi => by rw [if_pos hi])).setOther hb _
    · exact (h.row r (by omega) hs').setOther hb _
end

theorem results_tmp5 {fn : Func} {t u v x y : Tmp} (h : fn.results = #[.tmp t, .tmp u, .tmp v, .tmp x, .tmp y]) (tmps : Array Value) (P : Program) (w : World) :
    (results fn tmps).run P w = .ok (.tuple #[tmps.getD t undef, tmps.getD u undef, tmps.getD v undef, tmps.getD x undef, tmps.getD y undef]) w := by
  simp [results, h]

theorem sl_slots {w wr : World} {G : Nat} {A : Nat → Option Addr} {T : Pl.Tab} (h : Sl w wr G A T G) (hn : ∀ r, r < G → (A r).isSome = false → T.L r = 0) (o : Obj) :
    Slots (wr.alloc o) (some ⟨w.heap.size, 0, none⟩) w.heap.size G T (nA w.heap.size A) T.L (fun r => w.heap.size + 1 + cnt A r) := by
  refine ⟨fun _ => rfl, fun r hr => by rw [(h.top.alloc o).cell hr, if_pos hr], fun r hr c hc => ?_⟩
  have hs : (A r).isSome = true := by
    cases e : (A r).isSome with
    | true => rfl
    | false => have := hn r hr e; omega
  have hrow := (h.row r hr hs).alloc o
  refine ⟨by simp [nA, hs], ?_, ?_, ?_⟩
  · rw [hrow.cell (by omega)]; simp [slotV]
  · rw [hrow.cell (by omega)]; simp [slotV, show (c * 3 + 1) / 3 = c by omega]
  · rw [hrow.cell (by omega)]; simp [slotV, show (c * 3 + 2) / 3 = c by omega]

/-- The columns. -/
def fr (S : List Pl.Cel) (i : Nat) : Nat := (S.map (·.r)).getD i 0
def fc (S : List Pl.Cel) (i : Nat) : Nat := (S.map (·.c)).getD i 0
def fh (S : List Pl.Cel) (i : Nat) : Int := (S.map (·.h)).getD i 0
def fl (S : List Pl.Cel) (i : Nat) : Int := (S.map (·.l)).getD i 0

theorem flat_get (S : List Pl.Cel) : ∀ i, i < S.length → (flat S)[i * 4]? = some (.int .i64 (fr S i)) ∧ (flat S)[i * 4 + 1]? = some (.int .i64 (fc S i)) ∧ (flat S)[i * 4 + 2]? = some (.int .u64 (fh S i)) ∧ (flat S)[i * 4 + 3]? = some (.int .u64 (fl S i)) := by
  induction S with
  | nil => intro i hi; simp at hi
  | cons x S ih =>
    intro i hi
    have e : flat (x :: S) = .int .i64 x.r :: .int .i64 x.c :: .int .u64 x.h :: .int .u64 x.l :: flat S := by simp [flat]
    rw [e]
    cases i with
    | zero => simp [fr, fc, fh, fl]
    | succ i =>
      obtain ⟨h1, h2, h3, h4⟩ := ih i (by simpa using hi)
      rw [show (i + 1) * 4 = i * 4 + 4 by omega]
      exact ⟨h1, h2, h3, h4⟩

theorem own_shape {w : World} {base : Nat} {v : Value} {S : List Pl.Cel} (h : w.ownsRow base 66 4 v S.length (flat S)) (hn : v = .slice none 0 0 ↔ S = []) :
    ∃ (ao : Option Addr) (g cap : Nat), v = .slice ao S.length cap ∧ ao.isNone = S.isEmpty ∧ (0 < S.length → ao = some ⟨g, 0, none⟩ ∧ g < w.heap.size) ∧
      ∀ i, i < S.length → w.cell? ⟨g, i * 4, none⟩ = some (.int .i64 (fr S i)) ∧ w.cell? ⟨g, i * 4 + 1, none⟩ = some (.int .i64 (fc S i)) ∧ w.cell? ⟨g, i * 4 + 2, none⟩ = some (.int .u64 (fh S i)) ∧ w.cell? ⟨g, i * 4 + 3, none⟩ = some (.int .u64 (fl S i)) := by
  cases S with
  | nil =>
    obtain rfl := hn.2 rfl
    exact ⟨none, 0, 0, rfl, rfl, by simp, by simp⟩
  | cons x S =>
    obtain ⟨g, cap, rfl, _, hg⟩ := h.form (by simp)
    have hc := h.cells (g := g) rfl
    refine ⟨_, g, cap, rfl, rfl, fun _ => ⟨rfl, hg⟩, fun i hi => ?_⟩
    obtain ⟨h1, h2, h3, h4⟩ := flat_get (x :: S) i hi
    have g1 := hc _ _ h1
    have g2 := hc _ _ h2
    have g3 := hc _ _ h3
    have g4 := hc _ _ h4
    rw [Addr.add_lit, Nat.zero_add] at g1 g2 g3 g4
    exact ⟨g1, g2, g3, g4⟩

/-- The four columns, k rows filled. -/
structure Fill (w wr : World) (S : List Pl.Cel) (k : Nat) : Prop where
  since : w.Since w.heap.size wr
  size : wr.heap.size = w.heap.size + 4
  r0 : wr.rowIs w.heap.size 3 S.length (fun i => if i < k then .int .i64 (fr S i) else .int .i64 0)
  r1 : wr.rowIs (w.heap.size + 1) 3 S.length (fun i => if i < k then .int .i64 (fc S i) else .int .i64 0)
  r2 : wr.rowIs (w.heap.size + 1 + 1) 22 S.length (fun i => if i < k then .int .u64 (fh S i) else .int .u64 0)
  r3 : wr.rowIs (w.heap.size + 1 + 1 + 1) 22 S.length (fun i => if i < k then .int .u64 (fl S i) else .int .u64 0)

theorem fill_start (w : World) (S : List Pl.Cel) : Fill w ((((w.alloc (.cells (madeCells #[.int .i64 0] S.length) 3)).alloc (.cells (madeCells #[.int .i64 0] S.length) 3)).alloc (.cells (madeCells #[.int .u64 0] S.length) 22)).alloc (.cells (madeCells #[.int .u64 0] S.length) 22)) S 0 := by
  have h0 := World.rowIs_made w (.int .i64 0) S.length 3
  have h1 := World.rowIs_made (w.alloc (.cells (madeCells #[.int .i64 0] S.length) 3)) (.int .i64 0) S.length 3
  have h2 := World.rowIs_made ((w.alloc (.cells (madeCells #[.int .i64 0] S.length) 3)).alloc (.cells (madeCells #[.int .i64 0] S.length) 3)) (.int .u64 0) S.length 22
  have h3 := World.rowIs_made (((w.alloc (.cells (madeCells #[.int .i64 0] S.length) 3)).alloc (.cells (madeCells #[.int .i64 0] S.length) 3)).alloc (.cells (madeCells #[.int .u64 0] S.length) 22)) (.int .u64 0) S.length 22
  simp only [World.size_alloc] at h1 h2 h3
  exact ⟨((((World.Since.refl _ _).alloc (Nat.le_refl _) _).alloc (by simp) _).alloc (by simp; omega) _).alloc (by simp; omega) _, by simp, (((h0.alloc _).alloc _).alloc _).congr (fun i _ => by simp), ((h1.alloc _).alloc _).congr (fun i _ => by simp), (h2.alloc _).congr (fun i _ => by simp), h3.congr (fun i _ => by simp)⟩

theorem fill_step {w wr : World} {S : List Pl.Cel} {k : Nat} (h : Fill w wr S k) :
    Fill w ((((wr.setCell ⟨w.heap.size, k, none⟩ (.int .i64 (fr S k))).setCell ⟨w.heap.size + 1, k, none⟩ (.int .i64 (fc S k))).setCell ⟨w.heap.size + 1 + 1, k, none⟩ (.int .u64 (fh S k))).setCell ⟨w.heap.size + 1 + 1 + 1, k, none⟩ (.int .u64 (fl S k))) S (k + 1) := by
  have aux : ∀ (f g : Nat → Value) (i : Nat), (if i = k then f k else if i < k then f i else g i) = if i < k + 1 then f i else g i := by
    intro f g i
    by_cases e : i = k
    · subst e; simp
    · rw [if_neg e]
      by_cases hlt : i < k
      · rw [if_pos hlt, if_pos (by omega)]
      · rw [if_neg hlt, if_neg (by omega)]
  have n : ∀ a b c : Nat, a ≠ b → w.heap.size + a ≠ (⟨w.heap.size + b, c, none⟩ : Addr).block := fun a b c h => by show w.heap.size + a ≠ w.heap.size + b; omega
  have l : ∀ b c : Nat, w.heap.size ≤ (⟨w.heap.size + b, c, none⟩ : Addr).block := fun b c => by show w.heap.size ≤ w.heap.size + b; omega
  refine ⟨(((h.since.setCell (l 0 k) _).setCell (l 1 k) _).setCell (l 2 k) _).setCell (l 3 k) _, by simpa using h.size, ?_, ?_, ?_, ?_⟩
  · exact (((((h.r0.set k _).setOther (n 0 1 k (by omega)) _).setOther (n 0 2 k (by omega)) _).setOther (n 0 3 k (by omega)) _)).congr (fun i _ => aux (fun i => .int .i64 (fr S i)) (fun _ => .int .i64 0) i)
  · exact ((((h.r1.setOther (n 1 0 k (by omega)) _).set k _).setOther (n 1 2 k (by omega)) _).setOther (n 1 3 k (by omega)) _).congr (fun i _ => aux (fun i => .int .i64 (fc S i)) (fun _ => .int .i64 0) i)
  · exact ((((h.r2.setOther (n 2 0 k (by omega)) _).setOther (n 2 1 k (by omega)) _).set k _).setOther (n 2 3 k (by omega)) _).congr (fun i _ => aux (fun i => .int .u64 (fh S i)) (fun _ => .int .u64 0) i)
  · exact ((((h.r3.setOther (n 3 0 k (by omega)) _).setOther (n 3 1 k (by omega)) _).setOther (n 3 2 k (by omega)) _).set k _).congr (fun i _ => aux (fun i => .int .u64 (fl S i)) (fun _ => .int .u64 0) i)

/-- What ZZTableCells answers: the cells in four columns. -/
def ZZP (S : List Pl.Cel) (w : World) (e : Ending) (w' : World) : Prop :=
  ∃ N, e = .returned (.tuple #[.bool S.isEmpty, .slice (some ⟨N, 0, none⟩) S.length S.length, .slice (some ⟨N + 1, 0, none⟩) S.length S.length, .slice (some ⟨N + 2, 0, none⟩) S.length S.length, .slice (some ⟨N + 3, 0, none⟩) S.length S.length]) ∧
    w.heap.size ≤ N ∧ w'.heap.size = N + 4 ∧ Below w.heap.size w w' ∧
    w'.rowIs N 3 S.length (fun i => .int .i64 (fr S i)) ∧ w'.rowIs (N + 1) 3 S.length (fun i => .int .i64 (fc S i)) ∧ w'.rowIs (N + 2) 22 S.length (fun i => .int .u64 (fh S i)) ∧ w'.rowIs (N + 3) 22 S.length (fun i => .int .u64 (fl S i))

set_option maxHeartbeats 8000000 in
set_option maxRecDepth 100000 in
theorem zzcells_any (ga0 : Option Addr) (gb0 go0 G gc0 : Nat) (A0 : Nat → Option Addr) (T : Pl.Tab) (C0 RB0 RO0 : Nat → Nat) (ga1 : Option Addr) (gb1 go1 gc1 : Nat) (A1 : Nat → Option Addr) (C1 RB1 RO1 : Nat → Nat) (ga2 : Option Addr) (gb2 go2 gc2 : Nat) (A2 : Nat → Option Addr) (C2 RB2 RO2 : Nat → Nat) (w : World)
    (h0 : Grid w ga0 gb0 go0 G A0 T.L C0 RB0 RO0 (fun r c => .bool (T.ok r c))) (h1 : Grid w ga1 gb1 go1 G A1 T.L C1 RB1 RO1 (fun r c => .int .u64 (T.hi r c))) (h2 : Grid w ga2 gb2 go2 G A2 T.L C2 RB2 RO2 (fun r c => .int .u64 (T.lo r c)))
    (hn : ∀ r, r < G → (A0 r).isSome = false → T.L r = 0) (hG : G ≤ 4096) (hsum : Pl.sumTo T.L G ≤ 1048576) (hL : ∀ r, r < G → T.L r ≤ 1048576) :
    Calls Try.prog 27 #[.slice ga0 G gc0, .slice ga1 G gc1, .slice ga2 G gc2] w fun e w' => ZZP (Pl.tabTo T G) w e w' := by
  have q1 := q44
  have hmk := run_make_row' (P := Try.prog) 55 56 (.slice none 0 0) 24 Try.underlying55 Try.info56 rfl .i64 .i64 G (by omega) (by omega)
  have HN : Hid _ := hn
  clear hn
  go_enter Try.func27, Try.ntmps27
  go_wp2_with fail
  clear hmk
  go_loopg [12] G (fun g i wr => ∃ k : Nat, k ≤ G ∧ g = G - k ∧ i = .int .i64 k ∧ Sl w wr G A0 T k)
  case atStart => exact ⟨0, Nat.zero_le _, rfl, rfl, sl_start _ _ _ _⟩
  case round =>
    obtain ⟨k, hk, rfl, rfl, hO⟩ := hrel
    by_cases hlt : k < G
    · obtain rfl := h0.addr (by omega)
      obtain rfl := h1.addr (by omega)
      obtain rfl := h2.addr (by omega)
      have hkz : (k : Int) < (G : Int) := by omega
      have hgb : gb0 < w.heap.size := World.block_lt_of_cell? _ _ (h0.row k hlt)
      have hLk := hL k hlt
      cases hs : (A0 k).isSome with
      | false =>
        have hAn : A0 k = none := by simpa using hs
        have g0 : wr.cell? ⟨gb0, go0 + k, none⟩ = some (.slice none (T.L k) (C0 k)) := by rw [hO.since.cell (a := ⟨gb0, go0 + k, none⟩) hgb, h0.row k hlt, hAn]
        have HS := sl_skip hO hs (HN.out k hlt hs)
        clear hs hAn
        go_wp2_with fail
        go_roundg (G - (k + 1))
        case measure => go_light; omega
        case rel => go_light; exact ⟨k + 1, by omega, rfl, by go_num, HS⟩
      | true =>
        obtain ⟨y, hy⟩ := Option.isSome_iff_exists.1 hs
        have HS : Hid _ := hs
        clear hs
        have g0 : wr.cell? ⟨gb0, go0 + k, none⟩ = some (.slice (some y) (T.L k) (C0 k)) := by rw [hO.since.cell (a := ⟨gb0, go0 + k, none⟩) hgb, h0.row k hlt, hy]
        have hmk2 := make_slots (T.L k) hLk
        have HY : Hid (A0 k = some y) := hy
        clear hy
        have hI0 := sl2_start hO
        have hsize := hO.size
        clear hO
        go_wp2_with fail
        clear hmk2 hsize g0
        go_loopg [14] (T.L k) (fun g i wi => ∃ c : Nat, c ≤ T.L k ∧ g = T.L k - c ∧ i = .int .i64 c ∧ Sl2 w wi G A0 T k c)
        case atStart => exact ⟨0, Nat.zero_le _, rfl, rfl, hI0⟩
        case round =>
          obtain ⟨c, hc, rfl, rfl, hI⟩ := hrel
          clear hI0
          have g1 : wr.cell? ⟨gb0, go0 + k, none⟩ = some (.slice (some y) (T.L k) (C0 k)) := by rw [hI.since.cell (a := ⟨gb0, go0 + k, none⟩) hgb, h0.row k hlt, HY.out]
          by_cases hcL : c < T.L k
          · obtain ⟨e1, e2⟩ := h0.elt k hlt c hcL
            have hyy : y = ⟨RB0 k, RO0 k, none⟩ := by have := HY.out; rw [e1] at this; exact (Option.some.inj this).symm
            subst hyy
            have hcz : (c : Int) < (T.L k : Int) := by omega
            have g2 : wr.cell? ⟨RB0 k, RO0 k + c, none⟩ = some (.bool (T.ok k c)) := by rw [hI.since.cell (a := ⟨RB0 k, RO0 k + c, none⟩) (World.block_lt_of_cell? _ _ e2)]; exact e2
            obtain ⟨e3, e4⟩ := h1.elt k hlt c hcL
            have g3 : wr.cell? ⟨gb1, go1 + k, none⟩ = some (.slice (some ⟨RB1 k, RO1 k, none⟩) (T.L k) (C1 k)) := by rw [hI.since.cell (a := ⟨gb1, go1 + k, none⟩) (World.block_lt_of_cell? _ _ (h1.row k hlt)), h1.row k hlt, e3]
            have g4 : wr.cell? ⟨RB1 k, RO1 k + c, none⟩ = some (.int .u64 (T.hi k c)) := by rw [hI.since.cell (a := ⟨RB1 k, RO1 k + c, none⟩) (World.block_lt_of_cell? _ _ e4)]; exact e4
            obtain ⟨e5, e6⟩ := h2.elt k hlt c hcL
            have g5 : wr.cell? ⟨gb2, go2 + k, none⟩ = some (.slice (some ⟨RB2 k, RO2 k, none⟩) (T.L k) (C2 k)) := by rw [hI.since.cell (a := ⟨gb2, go2 + k, none⟩) (World.block_lt_of_cell? _ _ (h2.row k hlt)), h2.row k hlt, e5]
            have g6 : wr.cell? ⟨RB2 k, RO2 k + c, none⟩ = some (.int .u64 (T.lo k c)) := by rw [hI.since.cell (a := ⟨RB2 k, RO2 k + c, none⟩) (World.block_lt_of_cell? _ _ e6)]; exact e6
            clear e1 e2 e3 e4 e5 e6
            have f0 : wr.cell? ⟨w.heap.size + 1 + cnt A0 k, c * 3, none⟩ = some (.int .u64 0) := by rw [hI.cur.cell (by omega), if_neg (by omega)]; simp [slotZ]
            have f1 : wr.cell? ⟨w.heap.size + 1 + cnt A0 k, c * 3 + 1, none⟩ = some (.int .u64 0) := by rw [hI.cur.cell (by omega), if_neg (by omega)]; simp [slotZ]
            have f2 : wr.cell? ⟨w.heap.size + 1 + cnt A0 k, c * 3 + 2, none⟩ = some (.bool false) := by rw [hI.cur.cell (by omega), if_neg (by omega)]; simp [slotZ]
            have f3 : ∀ j, wr.frozen? ⟨w.heap.size + 1 + cnt A0 k, j, none⟩ = false := fun j => hI.cur.frozen j
            go_wp2_with fail
            go_big_region
            have HS2 := sl2_step hI
            clear hI g1 g2 g3 g4 g5 g6 f0 f1 f2 f3
            go_wp2_with fail
            go_roundg (T.L k - (c + 1))
            case measure => go_light; omega
            case rel => go_light; exact ⟨c + 1, by omega, rfl, by go_num, HS2⟩
          · have hcz : ¬ (c : Int) < (T.L k : Int) := by omega
            obtain rfl : c = T.L k := by omega
            have g3 : wr.cell? ⟨w.heap.size, k, none⟩ = some (.slice none 0 0) := by simpa using hI.top.cell hlt
            have g4 : wr.frozen? ⟨w.heap.size, k, none⟩ = false := hI.top.frozen k
            have HD := sl2_done hI HS.out
            go_wp2_with fail
            go_roundg (G - (k + 1))
            case measure => go_light; omega
            case rel => go_light; exact ⟨k + 1, by omega, rfl, by go_num, HD⟩
    · have hkz : ¬ (k : Int) < (G : Int) := by omega
      obtain rfl : k = G := by omega
      go_wp2_with fail
      refine (cells_any wr.heap.size _ w.heap.size k k T _ _ _ _ (sl_slots hO HN.out _) (by simp) hG hsum hL).mono ?_
      rintro e wT ⟨v, rfl, hown, hbT, hnil⟩
      obtain ⟨ao, g, cap, hv, hao, hgg, hcells⟩ := own_shape hown hnil
      have hlen : (Pl.tabTo T k).length ≤ 1048576 := Nat.le_trans (Pl.tabTo_len T k) hsum
      generalize hSe : Pl.tabTo T k = S at hv hao hgg hcells hlen
      have HSE : Hid _ := hSe
      clear hSe
      have hB : Below w.heap.size w wT := ((since_below hO.since).alloc hO.since.size _).trans (hbT.mono (by simp; have := hO.since.size; omega))
      clear hown hbT hnil
      rw [hv]
      clear hv
      have hm1 := run_make_row' (P := Try.prog) 41 3 (.int .i64 0) 8 Try.underlying41 Try.info3 rfl .i64 .i64 S.length (by omega) (by omega)
      have hm2 := run_make_row' (P := Try.prog) 27 22 (.int .u64 0) 8 Try.underlying27 Try.info22 rfl .i64 .i64 S.length (by omega) (by omega)
      have HAO : Hid _ := hao
      have HG : Hid _ := hgg
      have HC : Hid _ := hcells
      clear hao hgg hcells
      go_wp2_with fail
      clear hm1 hm2
      go_loopg [21] S.length (fun g i wr => ∃ j : Nat, j ≤ S.length ∧ g = S.length - j ∧ i = .int .i64 j ∧ Fill wT wr S j)
      case atStart => exact ⟨0, Nat.zero_le _, rfl, rfl, fill_start _ _⟩
      case round =>
        obtain ⟨j, hj, rfl, rfl, hF⟩ := hrel
        by_cases hjl : j < S.length
        · obtain ⟨hao, hgl⟩ := HG.out (by omega)
          subst hao
          clear HAO
          obtain ⟨c0, c1, c2, c3⟩ := HC.out j hjl
          have hjz : (j : Int) < (S.length : Int) := by omega
          have d0 : wr.cell? ⟨g, j * 4, none⟩ = some (.int .i64 (fr S j)) := by rw [hF.since.cell (a := ⟨g, j * 4, none⟩) hgl]; exact c0
          have d1 : wr.cell? ⟨g, j * 4 + 1, none⟩ = some (.int .i64 (fc S j)) := by rw [hF.since.cell (a := ⟨g, j * 4 + 1, none⟩) hgl]; exact c1
          have d2 : wr.cell? ⟨g, j * 4 + 2, none⟩ = some (.int .u64 (fh S j)) := by rw [hF.since.cell (a := ⟨g, j * 4 + 2, none⟩) hgl]; exact c2
          have d3 : wr.cell? ⟨g, j * 4 + 3, none⟩ = some (.int .u64 (fl S j)) := by rw [hF.since.cell (a := ⟨g, j * 4 + 3, none⟩) hgl]; exact c3
          have e0 : wr.cell? ⟨wT.heap.size, j, none⟩ = some (.int .i64 0) := by simpa using hF.r0.cell hjl
          have e1 : wr.cell? ⟨wT.heap.size + 1, j, none⟩ = some (.int .i64 0) := by simpa using hF.r1.cell hjl
          have e2 : wr.cell? ⟨wT.heap.size + 1 + 1, j, none⟩ = some (.int .u64 0) := by simpa using hF.r2.cell hjl
          have e3 : wr.cell? ⟨wT.heap.size + 1 + 1 + 1, j, none⟩ = some (.int .u64 0) := by simpa using hF.r3.cell hjl
          have f0 : wr.frozen? ⟨wT.heap.size, j, none⟩ = false := hF.r0.frozen j
          have f1 : wr.frozen? ⟨wT.heap.size + 1, j, none⟩ = false := hF.r1.frozen j
          have f2 : wr.frozen? ⟨wT.heap.size + 1 + 1, j, none⟩ = false := hF.r2.frozen j
          have f3 : wr.frozen? ⟨wT.heap.size + 1 + 1 + 1, j, none⟩ = false := hF.r3.frozen j
          clear c0 c1 c2 c3
          go_wp2_with fail
          have HS2 := fill_step hF
          clear d0 d1 d2 d3 e0 e1 e2 e3 f0 f1 f2 f3 hF
          go_roundg (S.length - (j + 1))
          case measure => go_light; omega
          case rel => go_light; exact ⟨j + 1, by omega, rfl, by go_num, HS2⟩
        · have hjz : ¬ (j : Int) < (S.length : Int) := by omega
          obtain rfl : j = S.length := by omega
          have q3 := q63
          go_wp2_with fail
          refine bodyPost_ret (results_tmp5 rfl _ _ _) rfl ?_
          rw [HSE.out]
          refine ⟨wT.heap.size, ?_, hB.size, hF.size, hB.trans ((since_below hF.since).mono hB.size), hF.r0.congr (fun i hi => by rw [if_pos hi]), hF.r1.congr (fun i hi => by rw [if_pos hi]), hF.r2.congr (fun i hi => by rw [if_pos hi]), hF.r3.congr (fun i hi => by rw [if_pos hi])⟩
          rw [← HAO.out]
          rfl
end Go.Proofs.Qxb6602192a
