/-
  The walks of the functions that only read: isCloser, mStringEnd, mClose.
-/
import Derived.Test.Qxb6602166aRows
import Derived.Test.Qxb6602166aPlain
import Derived.WalkKit
namespace Go.Proofs.Qxb6602166a
open Go.RowKit

/-- A slice of n bytes that reads t. -/
structure Txt (w : World) (a : Option Addr) (b off n : Nat) (t : List Int) : Prop where
  len : t.length = n
  addr : 0 < n → a = some ⟨b, off, none⟩
  cell : ∀ i, i < n → w.cell? ⟨b, off + i, none⟩ = some (.int .u8 (t.getD i 0))

theorem Txt.get {w : World} {a : Option Addr} {b off n : Nat} {t : List Int} (h : Txt w a b off n t) {i : Nat} (hi : i < n) : t[i]? = some (t.getD i 0) := by
  have : i < t.length := by rw [h.len]; exact hi
  simp [this]

theorem isCloser_any (c : Int) (w : World) :
    Calls Try.prog 18 #[.int .u8 c] w fun e w' => e = .returned (.bool (c == 125 || c == 93)) ∧ w' = w := by
  by_cases h1 : c = 125
  · subst h1
    go_enter Try.func18, Try.ntmps18
    go_wp2
    go_ret
    exact ⟨rfl, rfl⟩
  · by_cases h2 : c = 93
    · subst h2
      go_enter Try.func18, Try.ntmps18
      go_wp2
      go_ret
      exact ⟨rfl, rfl⟩
    · have e1 : (c == 125) = false := by simp [h1]
      have e2 : (c == 93) = false := by simp [h2]
      go_enter Try.func18, Try.ntmps18
      go_wp2
      go_ret
      exact ⟨by simp [h1, h2], rfl⟩

/-- What mStringEnd answers. -/
def StrEnd (t : List Int) (p n : Nat) (e : Ending) : Prop :=
  ∃ (q : Nat) (esc ok : Bool), e = .returned (.tuple #[.int .i64 q, .bool esc, .bool ok]) ∧ (ok = true → p < q ∧ q ≤ n ∧ Pl.Reach t 1 (p + 1) 0 q)

set_option maxHeartbeats 1000000 in
theorem mStringEnd_any (a : Option Addr) (b off n c p : Nat) (t : List Int) (w : World) (ht : Txt w a b off n t) (hp : p < n) (hn : n ≤ 1048576) :
    Calls Try.prog 7 #[.slice a n c, .int .i64 p] w fun e w' => w' = w ∧ StrEnd t p n e := by
  obtain rfl := ht.addr (by omega)
  go_enter Try.func7, Try.ntmps7
  go_wp2
  go_loop [7, 8] (fun s7 s8 => ∃ (j : Nat) (e : Bool), p < j ∧ j ≤ n ∧ s8 = .int .i64 j ∧ s7 = .bool e ∧ Pl.Str t p j) (fun _ i => n - (intOf i).toNat)
  case atStart => exact ⟨p + 1, false, by omega, by omega, by go_num, rfl, Pl.str_start t p⟩
  case round =>
    obtain ⟨j, e, hpj, hj, rfl, rfl, hs⟩ := hrel
    by_cases hjn : j < n
    · obtain ⟨x, hx⟩ : ∃ x, x = t.getD j 0 := ⟨_, rfl⟩
      have hcx : w.cell? ⟨b, off + j, none⟩ = some (.int .u8 x) := by rw [hx]; exact ht.cell j hjn
      have hgx : t[j]? = some x := by rw [hx]; exact ht.get hjn
      have HG : Hid (t[j]? = some x) := hgx
      clear hx hgx
      have hjz : (j : Int) < (n : Int) := by omega
      by_cases h92 : x = 92
      · subst h92
        have HS := Pl.str_bs hs hpj HG.out
        go_wp2
        go_round
        case rel => exact ⟨j + 1, true, by omega, by omega, by go_num, rfl, HS⟩
        case measure => simp [intOf]; omega
      · have e92 : (x == 92) = false := by simp [h92]
        by_cases h34 : x = 34
        · subst h34
          go_wp2
          go_loop [9, 10] (fun s9 s10 => ∃ (r i : Nat), p ≤ i ∧ i + 1 + r = j ∧ s9 = .int .i64 r ∧ s10 = .int .i64 i ∧ r + Pl.run t p (i + 1) = Pl.run t p j) (fun _ i => (intOf i).toNat)
          case atStart => exact ⟨0, j - 1, by omega, by omega, by go_num, by go_num, by rw [show j - 1 + 1 = j by omega]; omega⟩
          case round =>
            obtain ⟨r, i, hpi, hij, rfl, rfl, hrun⟩ := hrel
            by_cases hpi' : p < i
            · have hpz : (p : Int) < (i : Int) := by omega
              obtain ⟨y, hy⟩ : ∃ y, y = t.getD i 0 := ⟨_, rfl⟩
              have hcy : w.cell? ⟨b, off + i, none⟩ = some (.int .u8 y) := by rw [hy]; exact ht.cell i (by omega)
              have hgy : t[i]? = some y := by rw [hy]; exact ht.get (by omega)
              have hiz : (i : Int) < (n : Int) := by omega
              clear hy
              by_cases hy92 : y = 92
              · have hR : r + 1 + Pl.run t p (i - 1 + 1) = Pl.run t p j := by
                  rw [show i - 1 + 1 = i by omega, ← hrun, Pl.run, if_pos ⟨hpi', by rw [hgy, hy92]⟩]; omega
                subst hy92
                clear hrun hgy
                go_wp2
                go_round
                case rel => exact ⟨r + 1, i - 1, by omega, by omega, by go_num, by go_num, hR⟩
                case measure => simp [intOf]; omega
              · have hR : r = Pl.run t p j := by
                  rw [← hrun, Pl.run, if_neg (by rintro ⟨_, h⟩; rw [hgy] at h; simp at h; exact hy92 h)]; rfl
                have ey : (y == 92) = false := by simp [hy92]
                have HR : Hid (r = Pl.run t p j) := hR
                clear hrun hR
                by_cases hev : r % 2 = 0
                · have hez : ((r : Int) % 2 == 0) = true := by simp; omega
                  have HF := Pl.str_even hs HG.out (by rw [← HR.out]; exact hev)
                  go_wp2
                  go_ret3
                  exact ⟨rfl, j + 1, e, true, by simp, fun _ => ⟨by omega, by omega, HF⟩⟩
                · have hez : ((r : Int) % 2 == 0) = false := by simp; omega
                  have HS := Pl.str_odd hs HG.out (by rw [← HR.out]; exact hev)
                  go_wp2
                  go_round
                  case rel => exact ⟨j + 1, e, by omega, by omega, by go_num, rfl, HS⟩
                  case measure => simp [intOf]; omega
            · have hpz : ¬ (p : Int) < (i : Int) := by omega
              have hR : r = Pl.run t p j := by
                rw [← hrun, Pl.run, if_neg (by rintro ⟨h, _⟩; exact hpi' h)]; rfl
              have HR : Hid (r = Pl.run t p j) := hR
              clear hrun hR
              by_cases hev : r % 2 = 0
              · have hez : ((r : Int) % 2 == 0) = true := by simp; omega
                have HF := Pl.str_even hs HG.out (by rw [← HR.out]; exact hev)
                go_wp2
                go_ret3
                exact ⟨rfl, j + 1, e, true, by simp, fun _ => ⟨by omega, by omega, HF⟩⟩
              · have hez : ((r : Int) % 2 == 0) = false := by simp; omega
                have HS := Pl.str_odd hs HG.out (by rw [← HR.out]; exact hev)
                go_wp2
                go_round
                case rel => exact ⟨j + 1, e, by omega, by omega, by go_num, rfl, HS⟩
                case measure => simp [intOf]; omega
        · have e34 : (x != 34) = true := by simp [h34]
          have HS := Pl.str_other hs HG.out h92 h34
          go_wp2
          go_round
          case rel => exact ⟨j + 1, e, by omega, by omega, by go_num, rfl, HS⟩
          case measure => simp [intOf]; omega
    · have hjz : ¬ (j : Int) < (n : Int) := by omega
      go_wp2
      go_ret3
      exact ⟨rfl, 0, false, false, rfl, by simp⟩
/-- What mClose answers. -/
def ClosePost (t : List Int) (p n : Nat) (e : Ending) : Prop :=
  ∃ (q : Nat) (ok : Bool), e = .returned (.tuple #[.int .i64 q, .bool ok]) ∧ (ok = true → p < q ∧ q ≤ n ∧ Pl.Closed t p q)

set_option maxHeartbeats 2000000 in
theorem mClose_any (a : Option Addr) (b off n c : Nat) (t : List Int) (hn : n ≤ 1048576) (k : Nat) : ∀ (p : Nat) (z : Int) (w : World), Txt w a b off n t → n - p ≤ k → z = p → p ≤ 9223372036854775807 →
    Calls Try.prog 13 #[.slice a n c, .int .i64 z] w fun e w' => w' = w ∧ ClosePost t p n e := by
  induction k with
  | zero =>
    intro p z w ht hk hz0 hp
    subst hz0
    have hz : ¬ (p : Int) < (n : Int) := by omega
    go_enter Try.func13, Try.ntmps13
    go_wp2_with fail
    refine wp_loop_rounds 1 ?_
    rw [rounds_succ]
    go_wp2_with fail
    go_ret2
    exact ⟨rfl, 0, false, rfl, by simp⟩
  | succ k ih =>
    intro p z w ht hk hz0 hp
    subst hz0
    have IH : Hid _ := ih
    clear ih
    go_enter Try.func13, Try.ntmps13
    go_wp2_with fail
    go_loop [1] (fun s1 => ∃ p' : Nat, s1 = .int .i64 p' ∧ p ≤ p' ∧ (p' ≤ n ∨ p' = p) ∧ Pl.Reach t 0 p 0 p') (fun i => n - (intOf i).toNat)
    case atStart => exact ⟨p, rfl, Nat.le_refl _, .inr rfl, Pl.Reach.refl _ _ _⟩
    case round =>
      obtain ⟨p', rfl, hpp, hpn, hr⟩ := hrel
      by_cases hlt : p' < n
      · obtain rfl := ht.addr (by omega)
        obtain ⟨x, hx⟩ : ∃ x, x = t.getD p' 0 := ⟨_, rfl⟩
        have hcx : w.cell? ⟨b, off + p', none⟩ = some (.int .u8 x) := by rw [hx]; exact ht.cell p' hlt
        have hgx : t[p']? = some x := by rw [hx]; exact ht.get hlt
        have HG : Hid (t[p']? = some x) := hgx
        clear hx hgx
        have hjz : (p' : Int) < (n : Int) := by omega
        by_cases h34 : x = 34
        · subst h34
          go_wp2_with (go_at_call 7; refine (mStringEnd_any _ _ _ _ _ _ _ _ ht hlt hn).mono ?_; rintro e w' ⟨rfl, q, esc, ok, rfl, hq⟩)
          · go_ret2
            exact ⟨rfl, 0, false, rfl, by simp⟩
          · have hok : (!ok) = false := by assumption
            obtain ⟨h1, h2, h3⟩ := hq (by simpa using hok)
            go_round
            case rel => exact ⟨q, rfl, by omega, .inl h2, hr.trans (Pl.reach_quote HG.out rfl h3)⟩
            case measure => simp [intOf]; omega
        · have e34 : (x == 34) = false := by simp [h34]
          by_cases hop : x = 123 ∨ x = 91
          · rcases hop with rfl | rfl
            all_goals
              go_wp2_with (go_at_call 13; refine (IH.out (p' + 1) _ _ ht (by omega) (by omega) (by omega)).mono ?_; rintro e w' ⟨rfl, q, ok, rfl, hq⟩)
              · go_ret2
                exact ⟨rfl, 0, false, rfl, by simp⟩
              · have hok : (!ok) = false := by assumption
                obtain ⟨h1, h2, h3⟩ := hq (by simpa using hok)
                go_round
                case rel => exact ⟨q, rfl, by omega, .inl h2, hr.trans (Pl.reach_open HG.out (by simp) h3)⟩
                case measure => simp [intOf]; omega
          · have h123 : x ≠ 123 := fun h => hop (.inl h)
            have h91 : x ≠ 91 := fun h => hop (.inr h)
            have e123 : (x == 123) = false := by simp [h123]
            have e91 : (x == 91) = false := by simp [h91]
            clear hop
            by_cases hcl : x = 125 ∨ x = 93
            · have hB : (x == 125 || x == 93) = true := by simpa using hcl
              have HC := Pl.closed_reach hr (Pl.closed_here HG.out hcl)
              clear hcl
              go_wp2_with (go_at_call 18; refine (isCloser_any _ _).mono ?_; rintro e w' ⟨rfl, rfl⟩; rw [hB])
              go_ret2
              exact ⟨rfl, p' + 1, true, by simp, fun _ => ⟨by omega, by omega, HC⟩⟩
            · have hB : (x == 125 || x == 93) = false := by simpa using hcl
              have HR := hr.trans (Pl.reach_other HG.out h34 h123 h91 (fun h => hcl (.inl h)) (fun h => hcl (.inr h)))
              clear hcl
              go_wp2_with (go_at_call 18; refine (isCloser_any _ _).mono ?_; rintro e w' ⟨rfl, rfl⟩; rw [hB])
              go_round
              case rel => exact ⟨p' + 1, by go_num, by omega, .inl (by omega), HR⟩
              case measure => simp [intOf]; omega
      · have hjz : ¬ (p' : Int) < (n : Int) := by omega
        go_wp2_with fail
        go_ret2
        exact ⟨rfl, 0, false, rfl, by simp⟩
end Go.Proofs.Qxb6602166a
