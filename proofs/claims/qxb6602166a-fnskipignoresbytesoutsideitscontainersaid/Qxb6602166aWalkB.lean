/-
  The walks of the functions that make memory: cloneBytes, join3.
-/
import Derived.Test.Qxb6602166aWalkA
import Derived.Deep.OwnRows
import Derived.Deep.LoopGhost
import Derived.Deep.Light
import Derived.Lib.SliceRun
namespace Go.Proofs.Qxb6602166a
open Go.RowKit

theorem Try.info5 : (Try.prog.info? 5).map (fun i => (i.zero, i.size, i.bytes)) = some (some (.int .u8 0), 1, 1) := by kernel_rfl

theorem since_below {B : Nat} {w w' : World} (h : w.Since B w') : Below B w w' := ⟨h.os, h.tape, h.output, h.size, h.block⟩

/-- A text below B reads the same in every world that is the same below B. -/
theorem Txt.below {w w' : World} {a : Option Addr} {b off n B : Nat} {t : List Int} (h : Txt w a b off n t) (hb : Below B w w') (hB : 0 < n → b < B) : Txt w' a b off n t :=
  ⟨h.len, h.addr, fun i hi => by rw [hb.cell (p := ⟨b, off + i, none⟩) (hB (by omega))]; exact h.cell i hi⟩

theorem Txt.lt {w : World} {a : Option Addr} {b off n : Nat} {t : List Int} (h : Txt w a b off n t) (hn : 0 < n) : b < w.heap.size :=
  World.block_lt_of_cell? _ _ (h.cell 0 hn)

/-- A call that has made a text of its own: its value, what it reads, where it lies. -/
def Made (w : World) (n : Nat) (t : List Int) (e : Ending) (w' : World) : Prop :=
  ∃ (a : Option Addr) (b off c : Nat), e = .returned (.slice a n c) ∧ Txt w' a b off n t ∧ (a = none → n = 0 ∧ c = 0) ∧ Below w.heap.size w w' ∧ (0 < n → b < w'.heap.size)

set_option maxHeartbeats 1000000 in
theorem cloneBytes_any (a : Option Addr) (b off n c : Nat) (t : List Int) (w : World) (ht : Txt w a b off n t) (hn : n ≤ 1048576) :
    Calls Try.prog 8 #[.slice a n c] w fun e w' => Made w n t e w' := by
  have q22 : ∀ (w : World) (a : Option Addr) (n c n' c' : Nat), (binOp .eql 22 (.slice a n c) (.slice none n' c')).run Try.prog w = .ok (.bool a.isNone) w := fun w a n c n' c' => Lib.run_eql_slice_nil w _ _ a n c n' c' Try.underlying22
  cases ha : a with
  | none =>
    have hn0 : n = 0 := by
      rcases Nat.eq_zero_or_pos n with h | h
      · exact h
      · have := ht.addr h; rw [ha] at this; cases this
    subst hn0
    go_enter Try.func8, Try.ntmps8
    go_wp2
    go_ret
    exact ⟨none, b, off, 0, rfl, ⟨ht.len, by omega, by omega⟩, fun _ => ⟨rfl, rfl⟩, Below.refl _ _, by omega⟩
  | some x =>
    have HA : Hid (a = some x) := ha
    clear ha
    have hmk := run_make_row' (P := Try.prog) 22 5 (.int .u8 0) 1 Try.underlying22 Try.info5 rfl .i64 .i64 n (by omega) (by omega)
    go_enter Try.func8, Try.ntmps8
    go_wp2
    go_loopg [4] n (fun g i wr => ∃ k : Nat, k ≤ n ∧ g = n - k ∧ i = .int .i64 k ∧ w.Since w.heap.size wr ∧ wr.heap.size = w.heap.size + 1 ∧ wr.rowIs w.heap.size 5 n (fun i => if i < k then .int .u8 (t.getD i 0) else .int .u8 0))
    case atStart => exact ⟨0, Nat.zero_le _, rfl, rfl, (World.Since.refl _ _).alloc (Nat.le_refl _) _, by simp, (World.rowIs_made w _ n 5).congr (fun i _ => by simp)⟩
    case round =>
      obtain ⟨k, hk, rfl, rfl, hS, hsz, hrow⟩ := hrel
      clear hmk
      by_cases hlt : k < n
      · have hxx : x = ⟨b, off, none⟩ := by have := HA.out; rw [ht.addr (by omega)] at this; exact (Option.some.inj this).symm
        subst hxx
        have hb : b < w.heap.size := ht.lt (by omega)
        obtain ⟨y, hy⟩ : ∃ y, y = t.getD k 0 := ⟨_, rfl⟩
        have g0 : wr.cell? ⟨b, off + k, none⟩ = some (.int .u8 y) := by rw [hS.cell (a := ⟨b, off + k, none⟩) hb, hy]; exact ht.cell k hlt
        have g1 : wr.cell? ⟨w.heap.size, k, none⟩ = some (.int .u8 0) := by rw [hrow.cell hlt]; simp
        have g2 : wr.frozen? ⟨w.heap.size, k, none⟩ = false := hrow.frozen k
        have HY : Hid (y = t.getD k 0) := hy
        clear hy
        have hkz : (k : Int) < (n : Int) := by omega
        go_wp2
        go_roundg (n - (k + 1))
        case measure => go_light; omega
        case rel =>
          go_light
          refine ⟨k + 1, by omega, rfl, by go_num, hS.setCell (Nat.le_refl _) _, by simpa using hsz, (hrow.set k _).congr (fun i _ => ?_)⟩
          by_cases e : i = k
          · subst e; simp; exact HY.out
          · rw [if_neg e]
            by_cases h : i < k
            · rw [if_pos h, if_pos (by omega)]
            · rw [if_neg h, if_neg (by omega)]
      · have hkz : ¬ (k : Int) < (n : Int) := by omega
        go_wp2
        go_ret
        obtain rfl : k = n := by omega
        exact ⟨_, w.heap.size, 0, k, rfl, ⟨ht.len, fun _ => rfl, fun i hi => by rw [Nat.zero_add, hrow.cell hi, if_pos hi]⟩, by simp, since_below hS, fun _ => hrow.lt⟩
/-- What the law on append asks of what is appended. -/
theorem txt_src {w : World} {a : Option Addr} {b off n : Nat} {t : List Int} (h : Txt w a b off n t) : ∀ ad, a = some ad → ∀ j u, (t.map (Value.int .u8))[j]? = some u → w.cell? (ad.add j) = some u := by
  intro ad had j u hu
  have hj : j < n := by
    have := (List.getElem?_eq_some_iff.1 hu).1
    simpa [h.len] using this
  rw [h.addr (by omega)] at had
  obtain rfl := Option.some.inj had
  rw [Addr.add_lit, h.cell j hj]
  have hj' : j < t.length := by rw [h.len]; exact hj
  simp [hj'] at hu
  simp [hj', hu]

theorem Txt.grown {w w' : World} {a : Option Addr} {b off n g : Nat} {t : List Int} (h : Txt w a b off n t) (hg : w.grownBy w' (some g)) (hb : 0 < n → b < g) : Txt w' a b off n t :=
  ⟨h.len, h.addr, fun i hi => hg.cell (h.cell i hi) (fun e => by have h2 : b = g := Option.some.inj e; have := hb (by omega); omega)⟩

set_option maxHeartbeats 1000000 in
theorem join3_any (a1 : Option Addr) (b1 o1 n1 c1 : Nat) (t1 : List Int) (a2 : Option Addr) (b2 o2 n2 c2 : Nat) (t2 : List Int) (a3 : Option Addr) (b3 o3 n3 c3 : Nat) (t3 : List Int) (w : World)
    (h1 : Txt w a1 b1 o1 n1 t1) (h2 : Txt w a2 b2 o2 n2 t2) (h3 : Txt w a3 b3 o3 n3 t3) (e1 : a1 = none → n1 = 0 ∧ c1 = 0) (e2 : a2 = none → n2 = 0 ∧ c2 = 0) (e3 : a3 = none → n3 = 0 ∧ c3 = 0) (hn : n1 + n2 + n3 ≤ 1048576) :
    Calls Try.prog 16 #[.slice a1 n1 c1, .slice a2 n2 c2, .slice a3 n3 c3] w fun e w' => Made w (n1 + n2 + n3) (t1 ++ t2 ++ t3) e w' := by
  obtain ⟨i0, hi, hz0, hz1, hz2⟩ := info_parts Try.info5
  have E1 : Hid _ := e1
  have E2 : Hid _ := e2
  have E3 : Hid _ := e3
  clear e1 e2 e3
  have l1 := h1.len
  have l2 := h2.len
  have l3 := h3.len
  have L1 : Hid _ := l1
  have L2 : Hid _ := l2
  have L3 : Hid _ := l3
  clear l1 l2 l3
  go_enter Try.func16, Try.ntmps16
  go_wp2_with (at_make; refine wpList_make_own _ rfl _ _ 22 rfl w.heap.size 5 i0 (.int .u8 0) 1 Try.underlying22 hi hz0 hz1 _ _ _ (n1 + n2 + n3) rfl rfl (by omega) ?b2 ?b3 (Nat.le_refl _) ?_)
  case b2 => rw [hz2]; omega
  case b3 => unfold maxLen; omega
  intro w0 hown0 hgrow0
  have g1 : Txt w0 a1 b1 o1 n1 t1 := ⟨h1.len, h1.addr, fun i hi => hgrow0.cell (h1.cell i hi) (by simp)⟩
  have g2 : Txt w0 a2 b2 o2 n2 t2 := ⟨h2.len, h2.addr, fun i hi => hgrow0.cell (h2.cell i hi) (by simp)⟩
  have g3 : Txt w0 a3 b3 o3 n3 t3 := ⟨h3.len, h3.addr, fun i hi => hgrow0.cell (h3.cell i hi) (by simp)⟩
  have f1 : 0 < n1 → b1 < w.heap.size := fun h => h1.lt h
  have f2 : 0 < n2 → b2 < w.heap.size := fun h => h2.lt h
  have f3 : 0 < n3 → b3 < w.heap.size := fun h => h3.lt h
  have F1 : Hid _ := f1
  have F2 : Hid _ := f2
  have F3 : Hid _ := f3
  clear f1 f2 f3 h1 h2 h3
  go_wp2_with (first
    | (at_builtin; refine wpList_append_fits_any _ rfl (.tmp 17) (.tmp 18) 22 rfl w.heap.size 5 i0 1 Try.underlying22 hi hz1 w.heap.size 0 (n1 + n2 + n3) _ rfl hown0 _ n1 _ (t1.map (Value.int .u8)) rfl (by simp [L1.out]) E1.out (txt_src g1) (ints_oneCell _ _) (by omega) ?_; intro w1 hown1 hgrow1; simp only [Nat.zero_add, List.nil_append] at hown1)
    | (at_builtin; refine wpList_append_fits_any _ rfl (.tmp 20) (.tmp 21) 22 rfl w.heap.size 5 i0 1 Try.underlying22 hi hz1 w.heap.size n1 (n1 + n2 + n3) _ rfl hown1 _ n2 _ (t2.map (Value.int .u8)) rfl (by simp [L2.out]) E2.out (txt_src (g2.grown hgrow1 F2.out)) (ints_oneCell _ _) (by omega) ?_; intro w2 hown2 hgrow2)
    | (at_builtin; refine wpList_append_fits_any _ rfl (.tmp 23) (.tmp 24) 22 rfl w.heap.size 5 i0 1 Try.underlying22 hi hz1 w.heap.size (n1 + n2) (n1 + n2 + n3) _ rfl hown2 _ n3 _ (t3.map (Value.int .u8)) rfl (by simp [L3.out]) E3.out (txt_src ((g3.grown hgrow1 F3.out).grown hgrow2 F3.out)) (ints_oneCell _ _) (by omega) ?_; intro w3 hown3 hgrow3))
  go_ret
  have hb : Below w.heap.size w w3 :=
    ((((Below.refl _ _).grown hgrow0 (Nat.le_refl _) (fun k h => by cases h)).grown hgrow1 hgrow0.size (fun k h => by cases h; exact Nat.le_refl _)).grown hgrow2 (Nat.le_trans hgrow0.size hgrow1.size) (fun k h => by cases h; exact Nat.le_refl _)).grown hgrow3
      (Nat.le_trans hgrow0.size (Nat.le_trans hgrow1.size hgrow2.size)) (fun k h => by cases h; exact Nat.le_refl _)
  have hcell : ∀ i, i < n1 + n2 + n3 → w3.cell? ⟨w.heap.size, 0 + i, none⟩ = some (.int .u8 ((t1 ++ t2 ++ t3).getD i 0)) := by
    intro i hi'
    have := hown3.cells rfl i (.int .u8 ((t1 ++ t2 ++ t3).getD i 0)) (by
      rw [← List.map_append, ← List.map_append]
      have hl : i < (t1 ++ t2 ++ t3).length := by simp [L1.out, L2.out, L3.out]; omega
      simp only [List.getElem?_map, List.getD_eq_getElem?_getD]
      rw [List.getElem?_eq_getElem hl]
      rfl)
    rw [Addr.add_lit] at this
    exact this
  exact ⟨_, w.heap.size, 0, n1 + n2 + n3, rfl, ⟨by simp [L1.out, L2.out, L3.out]; omega, fun _ => rfl, hcell⟩, by simp, hb, fun h => World.block_lt_of_cell? _ _ (hcell 0 h)⟩
end Go.Proofs.Qxb6602166a
