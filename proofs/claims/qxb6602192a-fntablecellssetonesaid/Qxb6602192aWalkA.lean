/-
  The walks of the functions that only read the grids: zzBytes.., tableBytesOK, tableShapeOK.
-/
import Derived.Test.Qxb6602192aRows
import Derived.Test.Qxb6602192aPlain
import Derived.WalkKit
import Derived.Deep.QuietTactic
import Derived.BigQuiet
namespace Go.Proofs.Qxb6602192a
open Go.RowKit

/-- A slice of slices: G rows, row r of L r elements, element c of it V r c. -/
structure Grid (w : World) (ga : Option Addr) (gb go G : Nat) (A : Nat → Option Addr) (L C RB RO : Nat → Nat) (V : Nat → Nat → Value) : Prop where
  addr : 0 < G → ga = some ⟨gb, go, none⟩
  row : ∀ r, r < G → w.cell? ⟨gb, go + r, none⟩ = some (.slice (A r) (L r) (C r))
  lens : ∀ r, r < G → L r ≤ 9223372036854775807
  elt : ∀ r, r < G → ∀ c, c < L r → A r = some ⟨RB r, RO r, none⟩ ∧ w.cell? ⟨RB r, RO r + c, none⟩ = some (V r c)

/-- It answers some bool. -/
def SomeBool (e : Ending) : Prop := ∃ r : Bool, e = .returned (.bool r)

section
variable {w : World} {ga0 : Option Addr} {gb0 go0 G0 : Nat} {A0 : Nat → Option Addr} {L0 C0 RB0 RO0 : Nat → Nat} {V0 : Nat → Nat → Value}
  {ga1 : Option Addr} {gb1 go1 G1 : Nat} {A1 : Nat → Option Addr} {L1 C1 RB1 RO1 : Nat → Nat} {V1 : Nat → Nat → Value}
  {ga2 : Option Addr} {gb2 go2 G2 : Nat} {A2 : Nat → Option Addr} {L2 C2 RB2 RO2 : Nat → Nat} {V2 : Nat → Nat → Value}

set_option maxHeartbeats 4000000 in
theorem zz22_any (c0 c1 c2 : Nat) (h0 : Grid w ga0 gb0 go0 G0 A0 L0 C0 RB0 RO0 V0) (h1 : Grid w ga1 gb1 go1 G1 A1 L1 C1 RB1 RO1 V1) (h2 : Grid w ga2 gb2 go2 G2 A2 L2 C2 RB2 RO2 V2)
    (m0 : G0 ≤ 9223372036854775807) (m1 : G1 ≤ 9223372036854775807) (m2 : G2 ≤ 9223372036854775807) :
    Calls Try.prog 22 #[.slice ga0 G0 c0, .slice ga1 G1 c1, .slice ga2 G2 c2] w fun e w' => w' = w ∧ SomeBool e := by
  by_cases k0 : 1048576 < G0
  · go_enter Try.func22, Try.ntmps22
    go_wp2_with fail
    go_ret
    exact ⟨rfl, _, rfl⟩
  go_enter Try.func22, Try.ntmps22
  go_wp2_with fail
  go_loop [7, 8] (fun s7 s8 => ∃ (k z : Nat), k ≤ G0 ∧ z ≤ 1048576 ∧ s8 = .int .i64 k ∧ s7 = .int .i64 z) (fun _ i => G0 - (intOf i).toNat)
  case atStart => exact ⟨0, G0, by omega, by omega, rfl, by go_num⟩
  case round =>
    obtain ⟨k0, z0, hk0, hz0, rfl, rfl⟩ := hrel
    by_cases hlt0 : k0 < G0
    · obtain rfl := h0.addr (by omega)
      have hr := h0.row k0 hlt0
      have hl := h0.lens k0 hlt0
      have hkz : (k0 : Int) < (G0 : Int) := by omega
      go_wp2_with fail
      · go_ret
        exact ⟨rfl, _, rfl⟩
      · go_ret
        exact ⟨rfl, _, rfl⟩
      · go_round
        case rel => exact ⟨k0 + 1, z0 + L0 k0, by omega, by omega, by go_num, by go_num⟩
        case measure => simp [intOf]; omega
    · have hkz : ¬ (k0 : Int) < (G0 : Int) := by omega
      clear hlt0
      by_cases k1' : 1048576 < G1
      · go_wp2_with fail
        go_ret
        exact ⟨rfl, _, rfl⟩
      by_cases k1'' : 1048576 < z0 + G1
      · go_wp2_with fail
        go_ret
        exact ⟨rfl, _, rfl⟩
      go_wp2_with fail
      go_loop [7, 9] (fun s7 s8 => ∃ (k z : Nat), k ≤ G1 ∧ z ≤ 1048576 ∧ s8 = .int .i64 k ∧ s7 = .int .i64 z) (fun _ i => G1 - (intOf i).toNat)
      case atStart => exact ⟨0, z0 + G1, by omega, by omega, rfl, by go_num⟩
      case round =>
        obtain ⟨k1, z1, hk1, hz1, rfl, rfl⟩ := hrel
        by_cases hlt1 : k1 < G1
        · obtain rfl := h1.addr (by omega)
          have hr := h1.row k1 hlt1
          have hl := h1.lens k1 hlt1
          have hkz : (k1 : Int) < (G1 : Int) := by omega
          go_wp2_with fail
          · go_ret
            exact ⟨rfl, _, rfl⟩
          · go_ret
            exact ⟨rfl, _, rfl⟩
          · go_round
            case rel => exact ⟨k1 + 1, z1 + L1 k1, by omega, by omega, by go_num, by go_num⟩
            case measure => simp [intOf]; omega
        · have hkz : ¬ (k1 : Int) < (G1 : Int) := by omega
          clear hlt1
          by_cases k2' : 1048576 < G2
          · go_wp2_with fail
            go_ret
            exact ⟨rfl, _, rfl⟩
          by_cases k2'' : 1048576 < z1 + G2
          · go_wp2_with fail
            go_ret
            exact ⟨rfl, _, rfl⟩
          go_wp2_with fail
          go_loop [7, 10] (fun s7 s8 => ∃ (k z : Nat), k ≤ G2 ∧ z ≤ 1048576 ∧ s8 = .int .i64 k ∧ s7 = .int .i64 z) (fun _ i => G2 - (intOf i).toNat)
          case atStart => exact ⟨0, z1 + G2, by omega, by omega, rfl, by go_num⟩
          case round =>
            obtain ⟨k2, z2, hk2, hz2, rfl, rfl⟩ := hrel
            by_cases hlt2 : k2 < G2
            · obtain rfl := h2.addr (by omega)
              have hr := h2.row k2 hlt2
              have hl := h2.lens k2 hlt2
              have hkz : (k2 : Int) < (G2 : Int) := by omega
              go_wp2_with fail
              · go_ret
                exact ⟨rfl, _, rfl⟩
              · go_ret
                exact ⟨rfl, _, rfl⟩
              · go_round
                case rel => exact ⟨k2 + 1, z2 + L2 k2, by omega, by omega, by go_num, by go_num⟩
                case measure => simp [intOf]; omega
            · have hkz : ¬ (k2 : Int) < (G2 : Int) := by omega
              clear hlt2
              go_wp2_with fail
              go_ret
              exact ⟨rfl, _, rfl⟩

set_option maxHeartbeats 4000000 in
theorem zz28_any (c0 c1 c2 : Nat) (y0 y1 y2 y3 : Int) (h0 : Grid w ga0 gb0 go0 G0 A0 L0 C0 RB0 RO0 V0) (h1 : Grid w ga1 gb1 go1 G1 A1 L1 C1 RB1 RO1 V1) (h2 : Grid w ga2 gb2 go2 G2 A2 L2 C2 RB2 RO2 V2)
    (m0 : G0 ≤ 9223372036854775807) (m1 : G1 ≤ 9223372036854775807) (m2 : G2 ≤ 9223372036854775807) :
    Calls Try.prog 28 #[.slice ga0 G0 c0, .slice ga1 G1 c1, .slice ga2 G2 c2, .int .i64 y0, .int .i64 y1, .int .u64 y2, .int .u64 y3] w fun e w' => w' = w ∧ SomeBool e := by
  by_cases k0 : 1048576 < G0
  · go_enter Try.func28, Try.ntmps28
    go_wp2_with fail
    go_ret
    exact ⟨rfl, _, rfl⟩
  go_enter Try.func28, Try.ntmps28
  go_wp2_with fail
  go_loop [15, 16] (fun s7 s8 => ∃ (k z : Nat), k ≤ G0 ∧ z ≤ 1048576 ∧ s8 = .int .i64 k ∧ s7 = .int .i64 z) (fun _ i => G0 - (intOf i).toNat)
  case atStart => exact ⟨0, G0, by omega, by omega, rfl, by go_num⟩
  case round =>
    obtain ⟨k0, z0, hk0, hz0, rfl, rfl⟩ := hrel
    by_cases hlt0 : k0 < G0
    · obtain rfl := h0.addr (by omega)
      have hr := h0.row k0 hlt0
      have hl := h0.lens k0 hlt0
      have hkz : (k0 : Int) < (G0 : Int) := by omega
      go_wp2_with fail
      · go_ret
        exact ⟨rfl, _, rfl⟩
      · go_ret
        exact ⟨rfl, _, rfl⟩
      · go_round
        case rel => exact ⟨k0 + 1, z0 + L0 k0, by omega, by omega, by go_num, by go_num⟩
        case measure => simp [intOf]; omega
    · have hkz : ¬ (k0 : Int) < (G0 : Int) := by omega
      clear hlt0
      by_cases k1' : 1048576 < G1
      · go_wp2_with fail
        go_ret
        exact ⟨rfl, _, rfl⟩
      by_cases k1'' : 1048576 < z0 + G1
      · go_wp2_with fail
        go_ret
        exact ⟨rfl, _, rfl⟩
      go_wp2_with fail
      go_loop [15, 17] (fun s7 s8 => ∃ (k z : Nat), k ≤ G1 ∧ z ≤ 1048576 ∧ s8 = .int .i64 k ∧ s7 = .int .i64 z) (fun _ i => G1 - (intOf i).toNat)
      case atStart => exact ⟨0, z0 + G1, by omega, by omega, rfl, by go_num⟩
      case round =>
        obtain ⟨k1, z1, hk1, hz1, rfl, rfl⟩ := hrel
        by_cases hlt1 : k1 < G1
        · obtain rfl := h1.addr (by omega)
          have hr := h1.row k1 hlt1
          have hl := h1.lens k1 hlt1
          have hkz : (k1 : Int) < (G1 : Int) := by omega
          go_wp2_with fail
          · go_ret
            exact ⟨rfl, _, rfl⟩
          · go_ret
            exact ⟨rfl, _, rfl⟩
          · go_round
            case rel => exact ⟨k1 + 1, z1 + L1 k1, by omega, by omega, by go_num, by go_num⟩
            case measure => simp [intOf]; omega
        · have hkz : ¬ (k1 : Int) < (G1 : Int) := by omega
          clear hlt1
          by_cases k2' : 1048576 < G2
          · go_wp2_with fail
            go_ret
            exact ⟨rfl, _, rfl⟩
          by_cases k2'' : 1048576 < z1 + G2
          · go_wp2_with fail
            go_ret
            exact ⟨rfl, _, rfl⟩
          go_wp2_with fail
          go_loop [15, 18] (fun s7 s8 => ∃ (k z : Nat), k ≤ G2 ∧ z ≤ 1048576 ∧ s8 = .int .i64 k ∧ s7 = .int .i64 z) (fun _ i => G2 - (intOf i).toNat)
          case atStart => exact ⟨0, z1 + G2, by omega, by omega, rfl, by go_num⟩
          case round =>
            obtain ⟨k2, z2, hk2, hz2, rfl, rfl⟩ := hrel
            by_cases hlt2 : k2 < G2
            · obtain rfl := h2.addr (by omega)
              have hr := h2.row k2 hlt2
              have hl := h2.lens k2 hlt2
              have hkz : (k2 : Int) < (G2 : Int) := by omega
              go_wp2_with fail
              · go_ret
                exact ⟨rfl, _, rfl⟩
              · go_ret
                exact ⟨rfl, _, rfl⟩
              · go_round
                case rel => exact ⟨k2 + 1, z2 + L2 k2, by omega, by omega, by go_num, by go_num⟩
                case measure => simp [intOf]; omega
            · have hkz : ¬ (k2 : Int) < (G2 : Int) := by omega
              clear hlt2
              go_wp2_with fail
              go_ret
              exact ⟨rfl, _, rfl⟩
/-- What tableBytesOK answers. -/
def BytesPost (L : Nat → Nat) (G : Nat) (e : Ending) : Prop := ∃ r : Bool, e = .returned (.bool r) ∧ (r = true → Pl.sumTo L G ≤ 1048576)

set_option maxHeartbeats 4000000 in
theorem bytes_any (c0 c1 c2 : Nat) (h0 : Grid w ga0 gb0 go0 G0 A0 L0 C0 RB0 RO0 V0) (h1 : Grid w ga1 gb1 go1 G1 A1 L1 C1 RB1 RO1 V1) (h2 : Grid w ga2 gb2 go2 G2 A2 L2 C2 RB2 RO2 V2)
    (m0 : G0 ≤ 4096) (m1 : G1 ≤ 4096) (m2 : G2 ≤ 4096) :
    Calls Try.prog 23 #[.slice ga0 G0 c0, .slice ga1 G1 c1, .slice ga2 G2 c2] w fun e w' => w' = w ∧ BytesPost L0 G0 e := by
  go_enter Try.func23, Try.ntmps23
  go_wp2_with fail
  go_loop [7, 8] (fun s7 s8 => ∃ (k z : Nat), k ≤ G0 ∧ z ≤ 1048576 ∧ s8 = .int .i64 k ∧ s7 = .int .i64 z ∧ Pl.sumTo L0 k ≤ z) (fun _ i => G0 - (intOf i).toNat)
  case atStart => exact ⟨0, 24 * (G0 + G1 + G2), by omega, by omega, rfl, by go_num, Nat.zero_le _⟩
  case round =>
    obtain ⟨k0, z0, hk0, hz0, rfl, rfl, hsum⟩ := hrel
    by_cases hlt0 : k0 < G0
    · obtain rfl := h0.addr (by omega)
      have hr := h0.row k0 hlt0
      have hl := h0.lens k0 hlt0
      have hkz : (k0 : Int) < (G0 : Int) := by omega
      go_wp2_with fail
      · go_ret
        exact ⟨rfl, false, rfl, by simp⟩
      · go_ret
        exact ⟨rfl, false, rfl, by simp⟩
      · go_round
        case rel => exact ⟨k0 + 1, z0 + L0 k0, by omega, by omega, by go_num, by go_num, by simp only [Pl.sumTo]; omega⟩
        case measure => simp [intOf]; omega
    · have hkz : ¬ (k0 : Int) < (G0 : Int) := by omega
      obtain rfl : k0 = G0 := by omega
      have hS : Pl.sumTo L0 k0 ≤ 1048576 := by omega
      clear hsum hlt0 hkz
      have hkz : ¬ (k0 : Int) < (k0 : Int) := by omega
      go_wp2_with fail
      go_loop [7, 9] (fun s7 s8 => ∃ (k z : Nat), k ≤ G1 ∧ z ≤ 1048576 ∧ s8 = .int .i64 k ∧ s7 = .int .i64 z) (fun _ i => G1 - (intOf i).toNat)
      case atStart => exact ⟨0, z0, by omega, by omega, rfl, by go_num⟩
      case round =>
        obtain ⟨k1, z1, hk1, hz1, rfl, rfl⟩ := hrel
        by_cases hlt1 : k1 < G1
        · obtain rfl := h1.addr (by omega)
          have hr := h1.row k1 hlt1
          have hl := h1.lens k1 hlt1
          have hkz : (k1 : Int) < (G1 : Int) := by omega
          go_wp2_with fail
          · go_ret
            exact ⟨rfl, false, rfl, by simp⟩
          · go_ret
            exact ⟨rfl, false, rfl, by simp⟩
          · go_round
            case rel => exact ⟨k1 + 1, z1 + 8 * L1 k1, by omega, by omega, by go_num, by go_num⟩
            case measure => simp [intOf]; omega
        · have hkz : ¬ (k1 : Int) < (G1 : Int) := by omega
          go_wp2_with fail
          go_loop [7, 10] (fun s7 s8 => ∃ (k z : Nat), k ≤ G2 ∧ z ≤ 1048576 ∧ s8 = .int .i64 k ∧ s7 = .int .i64 z) (fun _ i => G2 - (intOf i).toNat)
          case atStart => exact ⟨0, z1, by omega, by omega, rfl, by go_num⟩
          case round =>
            obtain ⟨k2, z2, hk2, hz2, rfl, rfl⟩ := hrel
            by_cases hlt2 : k2 < G2
            · obtain rfl := h2.addr (by omega)
              have hr := h2.row k2 hlt2
              have hl := h2.lens k2 hlt2
              have hkz : (k2 : Int) < (G2 : Int) := by omega
              go_wp2_with fail
              · go_ret
                exact ⟨rfl, false, rfl, by simp⟩
              · go_ret
                exact ⟨rfl, false, rfl, by simp⟩
              · go_round
                case rel => exact ⟨k2 + 1, z2 + 8 * L2 k2, by omega, by omega, by go_num, by go_num⟩
                case measure => simp [intOf]; omega
            · have hkz : ¬ (k2 : Int) < (G2 : Int) := by omega
              go_wp2_with fail
              go_ret
              exact ⟨rfl, true, rfl, fun _ => hS⟩

/-- What tableShapeOK answers. -/
def ShapePost (L0 L1 L2 : Nat → Nat) (G0 G1 G2 : Nat) (e : Ending) : Prop := ∃ r : Bool, e = .returned (.bool r) ∧ (r = true → G1 = G0 ∧ G2 = G0 ∧ ∀ i, i < G0 → L1 i = L0 i ∧ L2 i = L0 i)

set_option maxHeartbeats 4000000 in
theorem shape_any (c0 c1 c2 : Nat) (h0 : Grid w ga0 gb0 go0 G0 A0 L0 C0 RB0 RO0 V0) (h1 : Grid w ga1 gb1 go1 G1 A1 L1 C1 RB1 RO1 V1) (h2 : Grid w ga2 gb2 go2 G2 A2 L2 C2 RB2 RO2 V2)
    (m0 : G0 ≤ 4096) (m1 : G1 ≤ 4096) (m2 : G2 ≤ 4096) :
    Calls Try.prog 24 #[.slice ga0 G0 c0, .slice ga1 G1 c1, .slice ga2 G2 c2] w fun e w' => (∃ n, w' = w.drewN n) ∧ ShapePost L0 L1 L2 G0 G1 G2 e := by
  by_cases e1 : G1 = G0
  · by_cases e2 : G2 = G0
    · subst e1
      subst e2
      go_enter Try.func24, Try.ntmps24
      go_wp2_with fail
      go_loopw [7] (fun s7 wr => ∃ (k n : Nat), k ≤ G2 ∧ s7 = .int .i64 k ∧ wr = w.drewN n ∧ ∀ i, i < k → L1 i = L0 i ∧ L2 i = L0 i) (fun i _ => G2 - (intOf i).toNat)
      case atStart => exact ⟨0, 0, by omega, rfl, rfl, fun _ h => by omega⟩
      case round =>
        obtain ⟨k, n, hk, rfl, rfl, hall⟩ := hrel
        by_cases hlt : k < G2
        · obtain rfl := h0.addr (by omega)
          obtain rfl := h1.addr (by omega)
          obtain rfl := h2.addr (by omega)
          have hr0 := h0.row k hlt
          have hr1 := h1.row k hlt
          have hr2 := h2.row k hlt
          have hkz : (k : Int) < (G2 : Int) := by omega
          have HA : Hid _ := hall
          clear hall
          by_cases q1 : L1 k = L0 k
          · have q1z : ((L1 k : Int) != (L0 k : Int)) = false := by simp [q1]
            by_cases q2 : L2 k = L0 k
            · have q2z : ((L2 k : Int) != (L0 k : Int)) = false := by simp [q2]
              have Q1 : Hid _ := q1
              have Q2 : Hid _ := q2
              clear q1 q2
              go_wp2_with fail
              go_quiet (fail)
              go_wp2_with fail
              go_roundw
              case rel => exact ⟨k + 1, n + nq, by omega, by go_num, by simp, fun i hi => by
                by_cases e : i = k
                · subst e; exact ⟨Q1.out, Q2.out⟩
                · exact HA.out i (by omega)⟩
              case measure => simp [intOf]; omega
            · have q2z : ((L2 k : Int) != (L0 k : Int)) = true := by simp; omega
              clear q1 q2
              go_wp2_with fail
              go_quiet (fail)
              go_wp2_with fail
              go_ret
              exact ⟨⟨n + nq, by simp⟩, false, rfl, by simp⟩
          · have q1z : ((L1 k : Int) != (L0 k : Int)) = true := by simp; omega
            clear q1
            go_wp2_with fail
            go_quiet (fail)
            go_wp2_with fail
            go_ret
            exact ⟨⟨n + nq, by simp⟩, false, rfl, by simp⟩
        · have hkz : ¬ (k : Int) < (G2 : Int) := by omega
          have HA : Hid _ := hall
          clear hall
          go_wp2_with fail
          go_ret
          exact ⟨⟨n, rfl⟩, true, rfl, fun _ => ⟨rfl, rfl, fun i hi => HA.out i (by omega)⟩⟩
    · have e2z : ((G2 : Int) != (G0 : Int)) = true := by simp; omega
      have E2 : Hid _ := e2
      clear e2
      subst e1
      go_enter Try.func24, Try.ntmps24
      go_wp2_with fail
      go_ret
      exact ⟨⟨0, rfl⟩, false, rfl, by simp⟩
  · have e1z : ((G1 : Int) != (G0 : Int)) = true := by simp; omega
    clear e1
    go_enter Try.func24, Try.ntmps24
    go_wp2_with fail
    go_ret
    exact ⟨⟨0, rfl⟩, false, rfl, by simp⟩
end
end Go.Proofs.Qxb6602192a
