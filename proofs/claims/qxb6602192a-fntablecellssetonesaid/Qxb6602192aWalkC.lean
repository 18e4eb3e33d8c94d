/-
  The walk of TableCells.
-/
import Derived.Test.Qxb6602192aWalkB
import Derived.Deep.AppendLies
namespace Go.Proofs.Qxb6602192a
open Go.RowKit

theorem Try.info66 : (Try.prog.info? 66).map (fun i => (i.zero, i.size, i.bytes)) = some (some (.agg #[.int .i64 0, .int .i64 0, .int .u64 0, .int .u64 0]), 4, 32) := by kernel_rfl

def flat (S : List Pl.Cel) : List Value := S.flatMap (fun x => [.int .i64 x.r, .int .i64 x.c, .int .u64 x.h, .int .u64 x.l])

/-- The table of slots as ZZTableCells lays it. -/
structure Slots (w : World) (ta : Option Addr) (tb G : Nat) (T : Pl.Tab) (SA : Nat → Option Addr) (C SB : Nat → Nat) : Prop where
  addr : 0 < G → ta = some ⟨tb, 0, none⟩
  row : ∀ r, r < G → w.cell? ⟨tb, r, none⟩ = some (.slice (SA r) (T.L r) (C r))
  elt : ∀ r, r < G → ∀ c, c < T.L r → SA r = some ⟨SB r, 0, none⟩ ∧ w.cell? ⟨SB r, c * 3, none⟩ = some (.int .u64 (T.hi r c)) ∧ w.cell? ⟨SB r, c * 3 + 1, none⟩ = some (.int .u64 (T.lo r c)) ∧ w.cell? ⟨SB r, c * 3 + 2, none⟩ = some (.bool (T.ok r c))

/-- What TableCells answers. -/
def CellsP (S : List Pl.Cel) (w : World) (e : Ending) (w' : World) : Prop :=
  ∃ v, e = .returned v ∧ w'.ownsRow w.heap.size 66 4 v S.length (flat S) ∧ Below w.heap.size w w' ∧ (v = .slice none 0 0 ↔ S = [])

set_option maxHeartbeats 4000000 in
theorem cells_any (S : Nat) (ta : Option Addr) (tb G tc : Nat) (T : Pl.Tab) (SA : Nat → Option Addr) (C SB : Nat → Nat) (w : World) (h : Slots w ta tb G T SA C SB) (hS : w.cell? ⟨S, 4, none⟩ = some (.slice ta G tc)) (hG : G ≤ 4096) (hsum : Pl.sumTo T.L G ≤ 1048576) (hL : ∀ r, r < G → T.L r ≤ 1048576) :
    Calls Try.prog 33 #[.pointer (some ⟨S, 0, none⟩)] w fun e w' => CellsP (Pl.tabTo T G) w e w' := by
  obtain ⟨i0, hi, hz0, hz1, hz2⟩ := info_parts Try.info66
  go_enter Try.func33, Try.ntmps33
  go_wp2_with fail
  go_loopg [3, 13] G (fun g v i wr => ∃ k : Nat, k ≤ G ∧ g = G - k ∧ i = .int .i64 k ∧ wr.ownsRow w.heap.size 66 4 v (Pl.tabTo T k).length (flat (Pl.tabTo T k)) ∧ Below w.heap.size w wr ∧ (v = .slice none 0 0 ↔ Pl.tabTo T k = []))
  case atStart => exact ⟨0, Nat.zero_le _, rfl, rfl, World.ownsRow_nil _ _ _ _, Below.refl _ _, by simp [Pl.tabTo]⟩
  case round =>
    obtain ⟨k, hk, rfl, rfl, hown, hb, hnil⟩ := hrel
    by_cases hlt : k < G
    · obtain rfl := h.addr (by omega)
      have hkz : (k : Int) < (G : Int) := by omega
      have htb : tb < w.heap.size := World.block_lt_of_cell? _ _ (h.row k hlt)
      obtain ⟨y, hy⟩ : ∃ y, y = SA k := ⟨_, rfl⟩
      have g0 : wr.cell? ⟨tb, k, none⟩ = some (.slice y (T.L k) (C k)) := by rw [hb.cell (p := ⟨tb, k, none⟩) htb, hy]; exact h.row k hlt
      have HY : Hid (y = SA k) := hy
      clear hy
      have hLk := hL k hlt
      have HN : Hid _ := hnil
      clear hnil
      go_wp2_with fail
      clear g0
      go_loopg [3, 20] (T.L k) (fun g v i wi => ∃ c : Nat, c ≤ T.L k ∧ g = T.L k - c ∧ i = .int .i64 c ∧ wi.ownsRow w.heap.size 66 4 v (Pl.tabTo T k ++ Pl.rowTo T k c).length (flat (Pl.tabTo T k ++ Pl.rowTo T k c)) ∧ Below w.heap.size w wi ∧ (v = .slice none 0 0 ↔ Pl.tabTo T k ++ Pl.rowTo T k c = []))
      case atStart => exact ⟨0, Nat.zero_le _, rfl, rfl, by simpa [Pl.rowTo] using hown, hb, by simpa [Pl.rowTo] using HN.out⟩
      case round =>
        clear hown hb HN
        obtain ⟨c, hc, rfl, rfl, hown, hb, hnil⟩ := hrel
        by_cases hcL : c < T.L k
        · obtain ⟨e0, e1, e2, e3⟩ := h.elt k hlt c hcL
          have hyy : y = some ⟨SB k, 0, none⟩ := HY.out.trans e0
          clear HY e0
          subst hyy
          have hsb : SB k < w.heap.size := World.block_lt_of_cell? _ _ e1
          have g1 : wr.cell? ⟨SB k, c * 3, none⟩ = some (.int .u64 (T.hi k c)) := by rw [hb.cell (p := ⟨SB k, c * 3, none⟩) hsb]; exact e1
          have g2 : wr.cell? ⟨SB k, c * 3 + 1, none⟩ = some (.int .u64 (T.lo k c)) := by rw [hb.cell (p := ⟨SB k, c * 3 + 1, none⟩) hsb]; exact e2
          have g3 : wr.cell? ⟨SB k, c * 3 + 2, none⟩ = some (.bool (T.ok k c)) := by rw [hb.cell (p := ⟨SB k, c * 3 + 2, none⟩) hsb]; exact e3
          have HN : Hid _ := hnil
          clear hnil e1 e2 e3
          have hcz : (c : Int) < (T.L k : Int) := by omega
          cases hok : T.ok k c with
          | false =>
            rw [hok] at g3
            have HO : Hid _ := hok
            clear hok
            have hE : Pl.tabTo T k ++ Pl.rowTo T k (c + 1) = Pl.tabTo T k ++ Pl.rowTo T k c := by simp [Pl.rowTo, Pl.one, HO.out]
            have HE : Hid _ := hE
            clear hE
            go_wp2_with fail
            go_roundg (T.L k - (c + 1))
            case measure => go_light; omega
            case rel =>
              go_light
              refine ⟨c + 1, by omega, rfl, by go_num, ?_, ?_, ?_⟩
              · rw [HE.out]; exact hown.alloc _
              · exact hb.alloc hb.size _
              · rw [HE.out]; exact HN.out
          | true =>
            rw [hok] at g3
            have HO : Hid _ := hok
            clear hok
            have hE : Pl.tabTo T k ++ Pl.rowTo T k (c + 1) = Pl.tabTo T k ++ Pl.rowTo T k c ++ [Pl.cel T k c] := by simp [Pl.rowTo, Pl.one, HO.out]
            have HE : Hid _ := hE
            clear hE
            have hln : (Pl.tabTo T k ++ Pl.rowTo T k c).length ≤ 1048576 := Nat.le_trans (Pl.part_len T hlt hc) hsum
            go_wp2_with (at_builtin; refine wpList_append_own _ rfl _ _ 63 rfl w.heap.size 66 i0 (.agg #[.int .i64 0, .int .i64 0, .int .u64 0, .int .u64 0]) 4 32 Try.underlying63 hi hz0 hz1 hz2 rfl (by decide) _ _ _ rfl ((hown.alloc _).alloc _) ⟨wr.heap.size + 1, 0, none⟩ 1 1 [.int .i64 k, .int .i64 c, .int .u64 (T.hi k c), .int .u64 (T.lo k c)] rfl rfl ?c1 ?c2 ?c3 ?c4 ?c5 ?_)
            case c1 =>
              intro j u hj
              match j, hj with
              | 0, hj => simp at hj; subst hj; simp [Addr.add]
              | 1, hj => simp at hj; subst hj; simp [Addr.add]
              | 2, hj => simp at hj; subst hj; simp [Addr.add]
              | 3, hj => simp at hj; subst hj; simp [Addr.add]
            case c2 => intro u hu; simp at hu; rcases hu with rfl | rfl | rfl | rfl <;> rfl
            case c3 => unfold maxLen; omega
            case c4 => omega
            case c5 => have := hb.size; simp; omega
            intro v' w1 hown' hgrow hnil'
            have hb1 : Below w.heap.size w w1 := ((hb.alloc hb.size _).alloc (by simp; have := hb.size; omega) _).grown hgrow (by simp; have := hb.size; omega) (fun j hj => (hown.lt j hj).1)
            have HN' : Hid _ := hnil'
            clear hnil' hgrow hown g1 g2 g3
            go_wp2_with fail
            go_roundg (T.L k - (c + 1))
            case measure => go_light; omega
            case rel =>
              go_light
              refine ⟨c + 1, by omega, rfl, by go_num, ?_, hb1, ?_⟩
              · rw [HE.out]
                simpa [flat, Pl.cel, Nat.add_assoc] using hown'
              · rw [HE.out]
                constructor
                · intro h'; exact absurd h' HN'.out
                · intro h'; simp at h'
        · have hcz : ¬ (c : Int) < (T.L k : Int) := by omega
          obtain rfl : c = T.L k := by omega
          have HN : Hid _ := hnil
          clear hnil
          go_wp2_with fail
          go_roundg (G - (k + 1))
          case measure => go_light; omega
          case rel => go_light; exact ⟨k + 1, by omega, rfl, by go_num, hown, hb, HN.out⟩
    · have hkz : ¬ (k : Int) < (G : Int) := by omega
      obtain rfl : k = G := by omega
      have HN : Hid _ := hnil
      clear hnil
      go_wp2_with fail
      go_ret
      exact ⟨_, rfl, hown, hb, HN.out⟩
end Go.Proofs.Qxb6602192a
