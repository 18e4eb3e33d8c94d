/-
  The small readers: mIsWS, isSpace, mIsDigit, mIsHex, mSkipWS, mParseString, mParseWord, mParseNumber.
-/
import Derived.Test.Qxb6602274aRows
import Derived.Test.Qxb6602274aPlain
import Derived.WalkKit
import Derived.Deep.QuietTactic
import Derived.BigQuiet
import Derived.Deep.LoopGhost
import Derived.Deep.Light
namespace Go.Proofs.Qxb6602274a
open Go.RowKit

/-- A slice of n bytes that reads t. -/
structure Txt (w : World) (a : Option Addr) (b off n : Nat) (t : List Int) : Prop where
  len : t.length = n
  addr : 0 < n → a = some ⟨b, off, none⟩
  cell : ∀ i, i < n → w.cell? ⟨b, off + i, none⟩ = some (.int .u8 (t.getD i 0))
  byte : ∀ i, i < n → 0 ≤ t.getD i 0 ∧ t.getD i 0 ≤ 255

theorem Txt.get {w : World} {a : Option Addr} {b off n : Nat} {t : List Int} (h : Txt w a b off n t) {i : Nat} (hi : i < n) : t[i]? = some (t.getD i 0) := by
  have : i < t.length := by rw [h.len]; exact hi
  simp [this]

theorem ret_bool {a b : Bool} (h : a = b) : Ending.returned (.bool a) = .returned (.bool b) := by rw [h]

theorem isWS_any (c : Int) (w : World) : Calls Try.prog 23 #[.int .u8 c] w fun e w' => e = .returned (.bool (Pl.isW c)) ∧ w' = w := by
  by_cases h1 : c = 32
  · subst h1
    go_enter Try.func23, Try.ntmps23
    go_wp2
    go_ret
    exact ⟨rfl, rfl⟩
  have e1 : (c == 32) = false := by simp [h1]
  by_cases h2 : c = 9
  · subst h2
    go_enter Try.func23, Try.ntmps23
    go_wp2
    go_ret
    exact ⟨rfl, rfl⟩
  have e2 : (c == 9) = false := by simp [h2]
  by_cases h3 : c = 13
  · subst h3
    go_enter Try.func23, Try.ntmps23
    go_wp2
    go_ret
    exact ⟨rfl, rfl⟩
  have e3 : (c == 13) = false := by simp [h3]
  go_enter Try.func23, Try.ntmps23
  go_wp2
  all_goals go_ret
  all_goals exact ⟨ret_bool (by simp [Pl.isW, *]), rfl⟩

theorem isSpace_any (c : Int) (w : World) : Calls Try.prog 29 #[.int .u8 c] w fun e w' => e = .returned (.bool (Pl.isW c)) ∧ w' = w := by
  by_cases h1 : c = 32
  · subst h1
    go_enter Try.func29, Try.ntmps29
    go_wp2
    go_ret
    exact ⟨rfl, rfl⟩
  have e1 : (c == 32) = false := by simp [h1]
  by_cases h2 : c = 9
  · subst h2
    go_enter Try.func29, Try.ntmps29
    go_wp2
    go_ret
    exact ⟨rfl, rfl⟩
  have e2 : (c == 9) = false := by simp [h2]
  by_cases h3 : c = 13
  · subst h3
    go_enter Try.func29, Try.ntmps29
    go_wp2
    go_ret
    exact ⟨rfl, rfl⟩
  have e3 : (c == 13) = false := by simp [h3]
  go_enter Try.func29, Try.ntmps29
  go_wp2
  all_goals go_ret
  all_goals exact ⟨ret_bool (by simp [Pl.isW, *]), rfl⟩

def digB (c : Int) : Bool := decide (48 ≤ c) && decide (c ≤ 57)
theorem isDigit_any (c : Int) (w : World) : Calls Try.prog 21 #[.int .u8 c] w fun e w' => e = .returned (.bool (digB c)) ∧ w' = w := by
  by_cases h1 : 48 ≤ c
  · by_cases h2 : c ≤ 57
    · go_enter Try.func21, Try.ntmps21
      go_wp2
      go_ret
      exact ⟨ret_bool (by simp [digB]; omega), rfl⟩
    · go_enter Try.func21, Try.ntmps21
      go_wp2
      go_ret
      exact ⟨ret_bool (by simp [digB]; omega), rfl⟩
  · go_enter Try.func21, Try.ntmps21
    go_wp2
    go_ret
    exact ⟨ret_bool (by simp [digB]; omega), rfl⟩

/-- A byte that is told to be a hex digit is neither a quote nor a backslash. -/
def HexP (c : Int) (e : Ending) : Prop := ∃ r : Bool, e = .returned (.bool r) ∧ (r = true → c ≠ 34 ∧ c ≠ 92)
theorem isHex_any (c : Int) (w : World) : Calls Try.prog 28 #[.int .u8 c] w fun e w' => w' = w ∧ HexP c e := by
  by_cases h : c = 34 ∨ c = 92
  · rcases h with rfl | rfl
    all_goals
      go_enter Try.func28, Try.ntmps28
      go_wp2_with (go_at_call 21; refine (isDigit_any _ _).mono ?_; rintro e w' ⟨rfl, rfl⟩)
      go_ret
      exact ⟨rfl, _, rfl, by simp⟩
  · have H : Hid _ := h
    clear h
    go_enter Try.func28, Try.ntmps28
    go_wp2_with (go_at_call 21; refine (isDigit_any _ _).mono ?_; rintro e w' ⟨rfl, rfl⟩)
    all_goals go_ret
    all_goals exact ⟨rfl, _, rfl, fun _ => ⟨fun h => H.out (.inl h), fun h => H.out (.inr h)⟩⟩

/-- What mSkipWS answers. -/
def WsP (t : List Int) (i : Nat) (e : Ending) : Prop := ∃ q : Nat, e = .returned (.int .i64 q) ∧ Pl.Ws t i q
set_option maxHeartbeats 1000000 in
theorem skipWS_any (a : Option Addr) (b off n c i : Nat) (z : Int) (t : List Int) (w : World) (ht : Txt w a b off n t) (hz : z = i) (_hi : i ≤ 2000000) (hn : n ≤ 65536) :
    Calls Try.prog 25 #[.slice a n c, .int .i64 z] w fun e w' => w' = w ∧ WsP t i e := by
  subst hz
  go_enter Try.func25, Try.ntmps25
  go_wp2_with fail
  go_loop [1] (fun s1 => ∃ q : Nat, s1 = .int .i64 q ∧ i ≤ q ∧ (q ≤ n ∨ q = i) ∧ ∀ j, i ≤ j → j < q → ∃ x, t[j]? = some x ∧ Pl.isW x = true) (fun s => n - (intOf s).toNat)
  case atStart => exact ⟨i, rfl, Nat.le_refl _, .inr rfl, fun j a b => by omega⟩
  case round =>
    obtain ⟨q, rfl, hiq, hqn, hall⟩ := hrel
    have HA : Hid _ := hall
    clear hall
    by_cases hlt : q < n
    · obtain rfl := ht.addr (by omega)
      obtain ⟨x, hx⟩ : ∃ x, x = t.getD q 0 := ⟨_, rfl⟩
      have hcx : w.cell? ⟨b, off + q, none⟩ = some (.int .u8 x) := by rw [hx]; exact ht.cell q hlt
      have hgx : t[q]? = some x := by rw [hx]; exact ht.get hlt
      have HG : Hid (t[q]? = some x) := hgx
      clear hx hgx
      have hqz : (q : Int) < (n : Int) := by omega
      cases hw : Pl.isW x with
      | true =>
        go_wp2_with (go_at_call 23; refine (isWS_any _ _).mono ?_; rintro e w' ⟨rfl, rfl⟩; rw [hw])
        go_round
        case rel => exact ⟨q + 1, by go_num, by omega, .inl (by omega), fun j a b => by
          by_cases e : j = q
          · subst e; exact ⟨x, HG.out, hw⟩
          · exact HA.out j a (by omega)⟩
        case measure => simp [intOf]; omega
      | false =>
        go_wp2_with (go_at_call 23; refine (isWS_any _ _).mono ?_; rintro e w' ⟨rfl, rfl⟩; rw [hw])
        go_ret
        exact ⟨rfl, q, rfl, hiq, HA.out, fun y hy => by rw [HG.out] at hy; obtain rfl := Option.some.inj hy; exact hw⟩
    · have hqz : ¬ (q : Int) < (n : Int) := by omega
      go_wp2_with fail
      go_ret
      refine ⟨rfl, q, rfl, hiq, HA.out, fun y hy => ?_⟩
      have := (List.getElem?_eq_some_iff.1 hy).1
      rw [ht.len] at this
      omega
/-- What mParseString answers. -/
def StrP (t : List Int) (p : Nat) (e : Ending) : Prop := ∃ (q : Nat) (ok : Bool), e = .returned (.tuple #[.int .i64 q, .bool ok]) ∧ (ok = true → t[p]? = some 34 ∧ Pl.SkS t (p + 1) 1 q)

theorem skS_more {t : List Int} {p i j : Nat} (h : ∀ q, Pl.SkS t i 1 q → Pl.SkS t (p + 1) 1 q) (k : ∀ q, Pl.SkS t j 1 q → Pl.SkS t i 1 q) : ∀ q, Pl.SkS t j 1 q → Pl.SkS t (p + 1) 1 q := fun q hq => h q (k q hq)
theorem skS_esc {t : List Int} {i : Nat} {y : Int} (h1 : t[i]? = some 92) (h2 : t[i + 1]? = some y) : ∀ q, Pl.SkS t (i + 2) 1 q → Pl.SkS t i 1 q := fun _ hq => (Pl.sks_bs h1 rfl).2 ((Pl.sks_e h2).2 hq)
theorem skS_plain {t : List Int} {i : Nat} (n : Nat) (h : ∀ k, k < n → ∃ x, t[i + k]? = some x ∧ x ≠ 34 ∧ x ≠ 92) : ∀ q, Pl.SkS t (i + n) 1 q → Pl.SkS t i 1 q := by
  induction n with
  | zero => intro q hq; exact hq
  | succ n ih =>
    intro q hq
    obtain ⟨x, hx, h1, h2⟩ := h n (by omega)
    exact ih (fun k hk => h k (by omega)) q ((Pl.sks_other hx h1 h2).2 hq)

set_option maxHeartbeats 2000000 in
set_option maxRecDepth 100000 in
theorem parseString_any (a : Option Addr) (b off n c p : Nat) (t : List Int) (w : World) (ht : Txt w a b off n t) (hn : n ≤ 65536) :
    Calls Try.prog 19 #[.slice a n c, .int .i64 p] w fun e w' => w' = w ∧ StrP t p e := by
  by_cases hpn : p < n
  · obtain rfl := ht.addr (by omega)
    obtain ⟨x0, hx0⟩ : ∃ x, x = t.getD p 0 := ⟨_, rfl⟩
    have hc0 : w.cell? ⟨b, off + p, none⟩ = some (.int .u8 x0) := by rw [hx0]; exact ht.cell p hpn
    have H0 : Hid (t[p]? = some x0) := by rw [hx0]; exact ht.get hpn
    clear hx0
    have hpz : (p : Int) < (n : Int) := by omega
    have hnp : ¬ n ≤ p := by omega
    by_cases hq0 : x0 = 34
    · subst hq0
      go_enter Try.func19, Try.ntmps19
      go_wp2_with fail
      go_loopg [6] (n - (p + 1)) (fun g s6 wr => wr = w ∧ ∃ i : Nat, s6 = .int .i64 i ∧ g = n - i ∧ p < i ∧ i ≤ n ∧ ∀ q, Pl.SkS t i 1 q → Pl.SkS t (p + 1) 1 q)
      case atStart => exact ⟨rfl, p + 1, by go_num, rfl, by omega, by omega, fun _ h => h⟩
      case round =>
        obtain ⟨rfl, i, rfl, rfl, hpi, hin, hall⟩ := hrel
        have HA : Hid _ := hall
        clear hall hc0
        by_cases hlt : i < n
        · obtain ⟨x, hx⟩ : ∃ x, x = t.getD i 0 := ⟨_, rfl⟩
          have hcx : wr.cell? ⟨b, off + i, none⟩ = some (.int .u8 x) := by rw [hx]; exact ht.cell i hlt
          have HG : Hid (t[i]? = some x) := by rw [hx]; exact ht.get hlt
          clear hx
          have hiz : (i : Int) < (n : Int) := by omega
          by_cases h34 : x = 34
          · subst h34
            go_wp2_with fail
            go_ret2
            exact ⟨rfl, i + 1, true, by simp, fun _ => ⟨H0.out, HA.out _ ((Pl.sks_quote HG.out rfl).2 rfl)⟩⟩
          have e34 : (x == 34) = false := by simp [h34]
          by_cases h20 : x < 32
          · go_wp2_with fail
            go_ret2
            exact ⟨rfl, 0, false, rfl, by simp⟩
          by_cases h92 : x = 92
          · subst h92
            by_cases hi1 : i + 1 < n
            · obtain ⟨y, hy⟩ : ∃ y, y = t.getD (i + 1) 0 := ⟨_, rfl⟩
              have hcy : wr.cell? ⟨b, off + (i + 1), none⟩ = some (.int .u8 y) := by rw [hy]; exact ht.cell (i + 1) hi1
              have HY : Hid (t[i + 1]? = some y) := by rw [hy]; exact ht.get hi1
              clear hy
              have hi1z : (i : Int) + 1 < (n : Int) := by omega
              have HE := skS_esc HG.out HY.out
              have HEE : Hid _ := HE
              clear HE
              by_cases hu : y = 117
              · subst hu
                by_cases h6 : n - i < 6
                · have h6z : (n : Int) - (i : Int) < 6 := by omega
                  go_wp2_with fail
                  go_ret2
                  exact ⟨rfl, 0, false, rfl, by simp⟩
                · have h6z : ¬ (n : Int) - (i : Int) < 6 := by omega
                  go_wp2_with fail
                  go_loop [8] (fun s8 => ∃ k : Nat, s8 = .int .i64 k ∧ 2 ≤ k ∧ k ≤ 6 ∧ ∀ j, j < k - 2 → ∃ x, t[i + 2 + j]? = some x ∧ x ≠ 34 ∧ x ≠ 92) (fun s => 6 - (intOf s).toNat)
                  case atStart => exact ⟨2, rfl, Nat.le_refl _, by omega, fun j hj => by omega⟩
                  case round =>
                    obtain ⟨k, rfl, hk2, hk6, hh⟩ := hrel
                    have HH : Hid _ := hh
                    clear hh
                    by_cases hkl : k < 6
                    · have hkz : (k : Int) < 6 := by omega
                      obtain ⟨u, hu⟩ : ∃ u, u = t.getD (i + k) 0 := ⟨_, rfl⟩
                      have hcu : wr.cell? ⟨b, off + (i + k), none⟩ = some (.int .u8 u) := by rw [hu]; exact ht.cell (i + k) (by omega)
                      have HU : Hid (t[i + k]? = some u) := by rw [hu]; exact ht.get (by omega)
                      clear hu
                      have hikz : (i : Int) + (k : Int) < (n : Int) := by omega
                      go_wp2_with (go_at_call 28; refine (isHex_any _ _).mono ?_; rintro e w' ⟨rfl, r, rfl, hr⟩)
                      · go_ret2
                        exact ⟨rfl, 0, false, rfl, by simp⟩
                      · have hrr : (!r) = false := by assumption
                        have hr' := hr (by simpa using hrr)
                        go_round
                        case rel => exact ⟨k + 1, by go_num, by omega, by omega, fun j hj => by
                          by_cases e : j = k - 2
                          · subst e; exact ⟨u, by rw [show i + 2 + (k - 2) = i + k by omega]; exact HU.out, hr'⟩
                          · exact HH.out j (by omega)⟩
                        case measure => simp [intOf]; omega
                    · have hkz : ¬ (k : Int) < 6 := by omega
                      obtain rfl : k = 6 := by omega
                      go_wp2_with fail
                      go_roundg (n - (i + 6))
                      case rel => go_light; exact ⟨rfl, i + 6, by go_num, rfl, by omega, by omega, skS_more HA.out (fun q hq => HEE.out q (skS_plain 4 (fun j hj => HH.out j (by omega)) q hq))⟩
                      case measure => go_light; omega
              · have eu : (y == 117) = false := by simp [hu]
                by_cases h34 : y = 34
                · subst h34
                  clear hu eu
                  go_wp2_with fail
                  go_roundg (n - (i + 2))
                  case rel => go_light; exact ⟨rfl, i + 2, by go_num, rfl, by omega, by omega, skS_more HA.out HEE.out⟩
                  case measure => go_light; omega
                have f34 : (y == 34) = false := by simp [h34]
                by_cases h92 : y = 92
                · subst h92
                  clear hu eu
                  go_wp2_with fail
                  go_roundg (n - (i + 2))
                  case rel => go_light; exact ⟨rfl, i + 2, by go_num, rfl, by omega, by omega, skS_more HA.out HEE.out⟩
                  case measure => go_light; omega
                have f92 : (y == 92) = false := by simp [h92]
                by_cases h47 : y = 47
                · subst h47
                  clear hu eu
                  go_wp2_with fail
                  go_roundg (n - (i + 2))
                  case rel => go_light; exact ⟨rfl, i + 2, by go_num, rfl, by omega, by omega, skS_more HA.out HEE.out⟩
                  case measure => go_light; omega
                have f47 : (y == 47) = false := by simp [h47]
                by_cases h98 : y = 98
                · subst h98
                  clear hu eu
                  go_wp2_with fail
                  go_roundg (n - (i + 2))
                  case rel => go_light; exact ⟨rfl, i + 2, by go_num, rfl, by omega, by omega, skS_more HA.out HEE.out⟩
                  case measure => go_light; omega
                have f98 : (y == 98) = false := by simp [h98]
                by_cases h102 : y = 102
                · subst h102
                  clear hu eu
                  go_wp2_with fail
                  go_roundg (n - (i + 2))
                  case rel => go_light; exact ⟨rfl, i + 2, by go_num, rfl, by omega, by omega, skS_more HA.out HEE.out⟩
                  case measure => go_light; omega
                have f102 : (y == 102) = false := by simp [h102]
                by_cases h110 : y = 110
                · subst h110
                  clear hu eu
                  go_wp2_with fail
                  go_roundg (n - (i + 2))
                  case rel => go_light; exact ⟨rfl, i + 2, by go_num, rfl, by omega, by omega, skS_more HA.out HEE.out⟩
                  case measure => go_light; omega
                have f110 : (y == 110) = false := by simp [h110]
                by_cases h114 : y = 114
                · subst h114
                  clear hu eu
                  go_wp2_with fail
                  go_roundg (n - (i + 2))
                  case rel => go_light; exact ⟨rfl, i + 2, by go_num, rfl, by omega, by omega, skS_more HA.out HEE.out⟩
                  case measure => go_light; omega
                have f114 : (y == 114) = false := by simp [h114]
                by_cases h116 : y = 116
                · subst h116
                  clear hu eu
                  go_wp2_with fail
                  go_roundg (n - (i + 2))
                  case rel => go_light; exact ⟨rfl, i + 2, by go_num, rfl, by omega, by omega, skS_more HA.out HEE.out⟩
                  case measure => go_light; omega
                have f116 : (y == 116) = false := by simp [h116]
                go_wp2_with fail
                go_ret2
                exact ⟨rfl, 0, false, rfl, by simp⟩
            · have hi1z : ¬ (i : Int) + 1 < (n : Int) := by omega
              go_wp2_with fail
              go_ret2
              exact ⟨rfl, 0, false, rfl, by simp⟩
          have e92 : (x != 92) = true := by simp [h92]
          go_wp2_with fail
          go_roundg (n - (i + 1))
          case rel => go_light; exact ⟨rfl, i + 1, by go_num, rfl, by omega, by omega, skS_more HA.out fun q hq => (Pl.sks_other HG.out h34 h92).2 hq⟩
          case measure => go_light; omega
        · have hiz : ¬ (i : Int) < (n : Int) := by omega
          go_wp2_with fail
          go_ret2
          exact ⟨rfl, 0, false, rfl, by simp⟩
    · have e0 : (x0 != 34) = true := by simp [hq0]
      go_enter Try.func19, Try.ntmps19
      go_wp2_with fail
      go_ret2
      exact ⟨rfl, 0, false, rfl, by simp⟩
  · have hpz : ¬ (p : Int) < (n : Int) := by omega
    go_enter Try.func19, Try.ntmps19
    go_wp2_with fail
    go_ret2
    exact ⟨rfl, 0, false, rfl, by simp⟩
end Go.Proofs.Qxb6602274a
