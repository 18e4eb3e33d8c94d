/-
  Numbers and words: mParseNumber, mParseWord.
-/
import Derived.Test.Qxb6602274aWalkA
import Derived.Deep.Cut
import Derived.Deep.CutRange
import Derived.Deep.DeepCutAuto
namespace Go.Proofs.Qxb6602274a
open Go.RowKit

/-- From p to i: bytes of a number or a word. -/
structure NumTo (t : List Int) (p i : Nat) : Prop where
  le : p ≤ i
  all : ∀ j, p ≤ j → j < i → ∃ c, t[j]? = some c ∧ Pl.plainB c = true
theorem NumTo.start (t : List Int) (p : Nat) : NumTo t p p := ⟨Nat.le_refl _, fun j a b => by omega⟩
theorem NumTo.more {t : List Int} {p i : Nat} {c : Int} (h : NumTo t p i) (hc : t[i]? = some c) (hb : Pl.plainB c = true) : NumTo t p (i + 1) :=
  ⟨by have := h.le; omega, fun j a b => by
    by_cases e : j = i
    · subst e; exact ⟨c, hc, hb⟩
    · exact h.all j a (by omega)⟩
theorem plain_dig {c : Int} (h : digB c = true) : Pl.plainB c = true := by simp [digB] at h; simp [Pl.plainB]; omega
theorem dig_range {c : Int} (h1 : 48 ≤ c) (h2 : c ≤ 57) : digB c = true := by simp [digB]; omega

/-- What mParseNumber answers. -/
def NumP (t : List Int) (p n : Nat) (e : Ending) : Prop := ∃ (q : Nat) (ok : Bool), e = .returned (.tuple #[.int .i64 q, .bool ok]) ∧ (ok = true → p < q ∧ q ≤ n ∧ NumTo t p q)

set_option maxHeartbeats 4000000 in
set_option maxRecDepth 100000 in
theorem parseNumber_any (a : Option Addr) (b off n c p : Nat) (t : List Int) (w : World) (ht : Txt w a b off n t) (hn : n ≤ 65536) (hp : p < n) :
    Calls Try.prog 22 #[.slice a n c, .int .i64 p] w fun e w' => w' = w ∧ NumP t p n e := by
  obtain rfl := ht.addr (by omega)
  obtain ⟨x0, hx0⟩ : ∃ x, x = t.getD p 0 := ⟨_, rfl⟩
  have hc0 : w.cell? ⟨b, off + p, none⟩ = some (.int .u8 x0) := by rw [hx0]; exact ht.cell p hp
  have H0 : Hid (t[p]? = some x0) := by rw [hx0]; exact ht.get hp
  clear hx0
  have hpz : (p : Int) < (n : Int) := by omega
  go_enter Try.func22, Try.ntmps22
  go_upto_if 20 with fail
  go_cut [6] (fun s6 wx => w = wx ∧ ∃ i : Nat, s6 = .int .i64 i ∧ i ≤ n ∧ NumTo t p i)
  case first =>
    go_wp2_with fail
    · have h45 : x0 = 45 := by simpa using (by assumption : (x0 == 45) = true)
      go_meet
      exact ⟨rfl, p + 1, by go_num, by omega, (NumTo.start t p).more H0.out (by subst h45; rfl)⟩
    · go_meet
      exact ⟨rfl, p, rfl, by omega, NumTo.start t p⟩
  case rest =>
    obtain ⟨rfl, i, rfl, hin, hN⟩ := hcut
    clear hc0
    by_cases hlt : i < n
    · obtain ⟨x, hx⟩ : ∃ x, x = t.getD i 0 := ⟨_, rfl⟩
      have hcx : w.cell? ⟨b, off + i, none⟩ = some (.int .u8 x) := by rw [hx]; exact ht.cell i hlt
      have HG : Hid (t[i]? = some x) := by rw [hx]; exact ht.get hlt
      clear hx
      have hiz : (i : Int) < (n : Int) := by omega
      have hni : ¬ n ≤ i := by omega
      obtain ⟨q48, hq48⟩ : ∃ q : Bool, (x == 48) = q := ⟨_, rfl⟩
      go_upto_if 31 with fail
      go_cut [6] (fun s6 wx => w = wx ∧ ∃ i : Nat, s6 = .int .i64 i ∧ p < i ∧ i ≤ n ∧ NumTo t p i)
      case first =>
        have hpi := hN.le
        cases q48 with
        | true =>
          have h48 : x = 48 := by simpa using hq48
          have HN1 := hN.more HG.out (by subst h48; rfl)
          clear h48
          go_wp2_with fail
          go_meet
          exact ⟨rfl, i + 1, by go_num, by omega, by omega, HN1⟩
        | false =>
          by_cases h49 : 49 ≤ x
          · by_cases h57 : x ≤ 57
            · have hdig : digB x = true := dig_range (by omega) h57
              have HDG : Hid _ := hdig
              clear hdig
              go_wp2_with fail
              go_loopg [6] (n - (i)) (fun g s6 wq => wq = w ∧ ∃ j : Nat, s6 = .int .i64 j ∧ g = n - j ∧ i ≤ j ∧ j ≤ n ∧ NumTo t p j)
              case atStart => exact ⟨rfl, i, by go_num, rfl, Nat.le_refl _, by omega, hN⟩
              case round =>
                obtain ⟨rfl, j, rfl, rfl, hij, hjn, hNj⟩ := hrel
                by_cases hjl : j < n
                · have hjz : (j : Int) < (n : Int) := by omega
                  obtain ⟨y, hx⟩ : ∃ x, x = t.getD (j) 0 := ⟨_, rfl⟩
                  have hcy : wr.cell? ⟨b, off + j, none⟩ = some (.int .u8 y) := by rw [hx]; exact ht.cell (j) (by omega)
                  have HY : Hid (t[j]? = some y) := by rw [hx]; exact ht.get (by omega)
                  clear hx
                  cases hd : digB y with
                  | true =>
                    go_wp2_with (go_at_call 21; refine (isDigit_any _ _).mono ?_; rintro e w' ⟨rfl, rfl⟩; rw [hd])
                    go_roundg (n - (j + 1))
                    case measure => go_light; omega
                    case rel => go_light; exact ⟨rfl, j + 1, by go_num, rfl, by omega, by omega, hNj.more HY.out (plain_dig hd)⟩
                  | false =>
                    have hne : j ≠ i := by
                      rintro rfl
                      have e := HY.out
                      rw [HG.out] at e
                      obtain rfl := Option.some.inj e
                      rw [HDG.out] at hd; cases hd
                    go_wp2_with (go_at_call 21; refine (isDigit_any _ _).mono ?_; rintro e w' ⟨rfl, rfl⟩; rw [hd])
                    go_meet
                    exact ⟨rfl, j, rfl, by omega, by omega, hNj⟩
                · have hjz : ¬ (j : Int) < (n : Int) := by omega
                  have hne : j ≠ i := by omega
                  go_wp2_with fail
                  go_meet
                  exact ⟨rfl, j, rfl, by omega, by omega, hNj⟩
            · go_wp2_with fail
              go_ret2
              exact ⟨rfl, 0, false, rfl, by simp⟩
          · go_wp2_with fail
            go_ret2
            exact ⟨rfl, 0, false, rfl, by simp⟩
      case rest =>
        obtain ⟨rfl, i1, rfl, hpi1, hin1, hN1⟩ := hcut
        clear hcx HG hiz hni hlt hN hin
        by_cases hl1 : i1 < n
        · have hiz1 : (i1 : Int) < (n : Int) := by omega
          obtain ⟨x1, hx⟩ : ∃ x, x = t.getD (i1) 0 := ⟨_, rfl⟩
          have hcx1 : w.cell? ⟨b, off + i1, none⟩ = some (.int .u8 x1) := by rw [hx]; exact ht.cell (i1) (by omega)
          have HG1 : Hid (t[i1]? = some x1) := by rw [hx]; exact ht.get (by omega)
          clear hx
          obtain ⟨q46, hq46⟩ : ∃ q : Bool, (x1 == 46) = q := ⟨_, rfl⟩
          go_upto_if 69 with fail
          go_cut [6] (fun s6 wx => w = wx ∧ ∃ i : Nat, s6 = .int .i64 i ∧ p < i ∧ i ≤ n ∧ NumTo t p i)
          case first =>
            cases q46 with
            | true =>
              have h46 : x1 = 46 := by simpa using hq46
              have hN2 := hN1.more HG1.out (by subst h46; rfl)
              clear h46
              go_wp2_with fail
              go_loopg [6] (n - (i1 + 1)) (fun g s6 wq => wq = w ∧ ∃ j : Nat, s6 = .int .i64 j ∧ g = n - j ∧ i1 + 1 ≤ j ∧ j ≤ n ∧ NumTo t p j)
              case atStart => exact ⟨rfl, i1 + 1, by go_num, rfl, Nat.le_refl _, by omega, hN2⟩
              case round =>
                obtain ⟨rfl, j, rfl, rfl, hij, hjn, hNj⟩ := hrel
                by_cases hjl : j < n
                · have hjz : (j : Int) < (n : Int) := by omega
                  obtain ⟨y, hx⟩ : ∃ x, x = t.getD (j) 0 := ⟨_, rfl⟩
                  have hcy : wr.cell? ⟨b, off + j, none⟩ = some (.int .u8 y) := by rw [hx]; exact ht.cell (j) (by omega)
                  have HY : Hid (t[j]? = some y) := by rw [hx]; exact ht.get (by omega)
                  clear hx
                  cases hd : digB y with
                  | true =>
                    go_wp2_with (go_at_call 21; refine (isDigit_any _ _).mono ?_; rintro e w' ⟨rfl, rfl⟩; rw [hd])
                    go_roundg (n - (j + 1))
                    case measure => go_light; omega
                    case rel => go_light; exact ⟨rfl, j + 1, by go_num, rfl, by omega, by omega, hNj.more HY.out (plain_dig hd)⟩
                  | false =>
                    by_cases hs : j = i1 + 1
                    · have hsz : ((j : Int) == (i1 : Int) + 1) = true := by simp; omega
                      have HS : Hid _ := hs
                      clear hs
                      go_wp2_with (go_at_call 21; refine (isDigit_any _ _).mono ?_; rintro e w' ⟨rfl, rfl⟩; rw [hd])
                      go_ret2
                      exact ⟨rfl, 0, false, rfl, by simp⟩
                    · have hsz : ((j : Int) == (i1 : Int) + 1) = false := by simp; omega
                      have HS : Hid _ := hs
                      clear hs
                      go_wp2_with (go_at_call 21; refine (isDigit_any _ _).mono ?_; rintro e w' ⟨rfl, rfl⟩; rw [hd])
                      go_meet
                      exact ⟨rfl, j, rfl, by omega, by omega, hNj⟩
                · have hjz : ¬ (j : Int) < (n : Int) := by omega
                  by_cases hs : j = i1 + 1
                  · have hsz : ((j : Int) == (i1 : Int) + 1) = true := by simp; omega
                    have HS : Hid _ := hs
                    clear hs
                    go_wp2_with fail
                    go_ret2
                    exact ⟨rfl, 0, false, rfl, by simp⟩
                  · have hsz : ((j : Int) == (i1 : Int) + 1) = false := by simp; omega
                    have HS : Hid _ := hs
                    clear hs
                    go_wp2_with fail
                    go_meet
                    exact ⟨rfl, j, rfl, by omega, by omega, hNj⟩
            | false =>
              go_wp2_with fail
              go_meet
              exact ⟨rfl, i1, rfl, hpi1, hin1, hN1⟩
          case rest =>
            obtain ⟨rfl, i2, rfl, hpi2, hin2, hN2⟩ := hcut
            clear hcx1 HG1 hiz1 hl1 hN1
            by_cases hl2 : i2 < n
            · have hiz2 : (i2 : Int) < (n : Int) := by omega
              obtain ⟨x2, hx⟩ : ∃ x, x = t.getD (i2) 0 := ⟨_, rfl⟩
              have hcx2 : w.cell? ⟨b, off + i2, none⟩ = some (.int .u8 x2) := by rw [hx]; exact ht.cell (i2) (by omega)
              have HG2 : Hid (t[i2]? = some x2) := by rw [hx]; exact ht.get (by omega)
              clear hx
              by_cases hE : x2 = 101 ∨ x2 = 69
              · have hN3 := hN2.more HG2.out (by rcases hE with rfl | rfl <;> rfl)
                have h101 : x2 = 101 ∨ ((x2 == 101) = false ∧ x2 = 69) := by
                  rcases hE with rfl | rfl
                  · exact .inl rfl
                  · exact .inr ⟨rfl, rfl⟩
                clear hE
                by_cases hl3 : i2 + 1 < n
                · have hiz3 : (i2 : Int) + 1 < (n : Int) := by omega
                  obtain ⟨x3, hx⟩ : ∃ x, x = t.getD ((i2 + 1)) 0 := ⟨_, rfl⟩
                  have hcx3 : w.cell? ⟨b, off + (i2 + 1), none⟩ = some (.int .u8 x3) := by rw [hx]; exact ht.cell ((i2 + 1)) (by omega)
                  have HG3 : Hid (t[(i2 + 1)]? = some x3) := by rw [hx]; exact ht.get (by omega)
                  clear hx
                  by_cases hS : x3 = 43 ∨ x3 = 45
                  · have hN4 := hN3.more HG3.out (by rcases hS with rfl | rfl <;> rfl)
                    rcases h101 with rfl | ⟨_, rfl⟩ <;> rcases hS with rfl | rfl
                    all_goals
                      go_wp2_with fail
                      go_loopg [6] (n - (i2 + 1 + 1)) (fun g s6 wq => wq = w ∧ ∃ j : Nat, s6 = .int .i64 j ∧ g = n - j ∧ i2 + 1 + 1 ≤ j ∧ j ≤ n ∧ NumTo t p j)
                      case atStart => exact ⟨rfl, i2 + 1 + 1, by go_num, rfl, Nat.le_refl _, by omega, hN4⟩
                      case round =>
                        obtain ⟨rfl, j, rfl, rfl, hij, hjn, hNj⟩ := hrel
                        by_cases hjl : j < n
                        · have hjz : (j : Int) < (n : Int) := by omega
                          obtain ⟨y, hx⟩ : ∃ x, x = t.getD (j) 0 := ⟨_, rfl⟩
                          have hcy : wr.cell? ⟨b, off + j, none⟩ = some (.int .u8 y) := by rw [hx]; exact ht.cell (j) (by omega)
                          have HY : Hid (t[j]? = some y) := by rw [hx]; exact ht.get (by omega)
                          clear hx
                          cases hd : digB y with
                          | true =>
                            go_wp2_with (go_at_call 21; refine (isDigit_any _ _).mono ?_; rintro e w' ⟨rfl, rfl⟩; rw [hd])
                            go_roundg (n - (j + 1))
                            case measure => go_light; omega
                            case rel => go_light; exact ⟨rfl, j + 1, by go_num, rfl, by omega, by omega, hNj.more HY.out (plain_dig hd)⟩
                          | false =>
                            by_cases hs : j = i2 + 1 + 1
                            · have hsz : ((j : Int) == (i2 : Int) + 1 + 1) = true := by simp; omega
                              have HS : Hid _ := hs
                              clear hs
                              go_wp2_with (go_at_call 21; refine (isDigit_any _ _).mono ?_; rintro e w' ⟨rfl, rfl⟩; rw [hd])
                              go_ret2
                              exact ⟨rfl, 0, false, rfl, by simp⟩
                            · have hsz : ((j : Int) == (i2 : Int) + 1 + 1) = false := by simp; omega
                              have HS : Hid _ := hs
                              clear hs
                              go_wp2_with (go_at_call 21; refine (isDigit_any _ _).mono ?_; rintro e w' ⟨rfl, rfl⟩; rw [hd])
                              go_ret2
                              exact ⟨rfl, j, true, rfl, fun _ => ⟨by omega, by omega, hNj⟩⟩
                        · have hjz : ¬ (j : Int) < (n : Int) := by omega
                          by_cases hs : j = i2 + 1 + 1
                          · have hsz : ((j : Int) == (i2 : Int) + 1 + 1) = true := by simp; omega
                            have HS : Hid _ := hs
                            clear hs
                            go_wp2_with fail
                            go_ret2
                            exact ⟨rfl, 0, false, rfl, by simp⟩
                          · have hsz : ((j : Int) == (i2 : Int) + 1 + 1) = false := by simp; omega
                            have HS : Hid _ := hs
                            clear hs
                            go_wp2_with fail
                            go_ret2
                            exact ⟨rfl, j, true, rfl, fun _ => ⟨by omega, by omega, hNj⟩⟩
                  · have s43 : (x3 == 43) = false := by simp; omega
                    have s45 : (x3 == 45) = false := by simp; omega
                    clear hS
                    rcases h101 with rfl | ⟨_, rfl⟩
                    all_goals
                      go_wp2_with fail
                      go_loopg [6] (n - (i2 + 1)) (fun g s6 wq => wq = w ∧ ∃ j : Nat, s6 = .int .i64 j ∧ g = n - j ∧ i2 + 1 ≤ j ∧ j ≤ n ∧ NumTo t p j)
                      case atStart => exact ⟨rfl, i2 + 1, by go_num, rfl, Nat.le_refl _, by omega, hN3⟩
                      case round =>
                        obtain ⟨rfl, j, rfl, rfl, hij, hjn, hNj⟩ := hrel
                        by_cases hjl : j < n
                        · have hjz : (j : Int) < (n : Int) := by omega
                          obtain ⟨y, hx⟩ : ∃ x, x = t.getD (j) 0 := ⟨_, rfl⟩
                          have hcy : wr.cell? ⟨b, off + j, none⟩ = some (.int .u8 y) := by rw [hx]; exact ht.cell (j) (by omega)
                          have HY : Hid (t[j]? = some y) := by rw [hx]; exact ht.get (by omega)
                          clear hx
                          cases hd : digB y with
                          | true =>
                            go_wp2_with (go_at_call 21; refine (isDigit_any _ _).mono ?_; rintro e w' ⟨rfl, rfl⟩; rw [hd])
                            go_roundg (n - (j + 1))
                            case measure => go_light; omega
                            case rel => go_light; exact ⟨rfl, j + 1, by go_num, rfl, by omega, by omega, hNj.more HY.out (plain_dig hd)⟩
                          | false =>
                            by_cases hs : j = i2 + 1
                            · have hsz : ((j : Int) == (i2 : Int) + 1) = true := by simp; omega
                              have HS : Hid _ := hs
                              clear hs
                              go_wp2_with (go_at_call 21; refine (isDigit_any _ _).mono ?_; rintro e w' ⟨rfl, rfl⟩; rw [hd])
                              go_ret2
                              exact ⟨rfl, 0, false, rfl, by simp⟩
                            · have hsz : ((j : Int) == (i2 : Int) + 1) = false := by simp; omega
                              have HS : Hid _ := hs
                              clear hs
                              go_wp2_with (go_at_call 21; refine (isDigit_any _ _).mono ?_; rintro e w' ⟨rfl, rfl⟩; rw [hd])
                              go_ret2
                              exact ⟨rfl, j, true, rfl, fun _ => ⟨by omega, by omega, hNj⟩⟩
                        · have hjz : ¬ (j : Int) < (n : Int) := by omega
                          by_cases hs : j = i2 + 1
                          · have hsz : ((j : Int) == (i2 : Int) + 1) = true := by simp; omega
                            have HS : Hid _ := hs
                            clear hs
                            go_wp2_with fail
                            go_ret2
                            exact ⟨rfl, 0, false, rfl, by simp⟩
                          · have hsz : ((j : Int) == (i2 : Int) + 1) = false := by simp; omega
                            have HS : Hid _ := hs
                            clear hs
                            go_wp2_with fail
                            go_ret2
                            exact ⟨rfl, j, true, rfl, fun _ => ⟨by omega, by omega, hNj⟩⟩
                · have hiz3 : ¬ (i2 : Int) + 1 < (n : Int) := by omega
                  rcases h101 with rfl | ⟨_, rfl⟩
                  all_goals
                    go_wp2_with fail
                    go_loopg [6] (n - (i2 + 1)) (fun g s6 wq => wq = w ∧ ∃ j : Nat, s6 = .int .i64 j ∧ g = n - j ∧ i2 + 1 ≤ j ∧ j ≤ n ∧ NumTo t p j)
                    case atStart => exact ⟨rfl, i2 + 1, by go_num, rfl, Nat.le_refl _, by omega, hN3⟩
                    case round =>
                      obtain ⟨rfl, j, rfl, rfl, hij, hjn, hNj⟩ := hrel
                      by_cases hjl : j < n
                      · have hjz : (j : Int) < (n : Int) := by omega
                        obtain ⟨y, hx⟩ : ∃ x, x = t.getD (j) 0 := ⟨_, rfl⟩
                        have hcy : wr.cell? ⟨b, off + j, none⟩ = some (.int .u8 y) := by rw [hx]; exact ht.cell (j) (by omega)
                        have HY : Hid (t[j]? = some y) := by rw [hx]; exact ht.get (by omega)
                        clear hx
                        cases hd : digB y with
                        | true =>
                          go_wp2_with (go_at_call 21; refine (isDigit_any _ _).mono ?_; rintro e w' ⟨rfl, rfl⟩; rw [hd])
                          go_roundg (n - (j + 1))
                          case measure => go_light; omega
                          case rel => go_light; exact ⟨rfl, j + 1, by go_num, rfl, by omega, by omega, hNj.more HY.out (plain_dig hd)⟩
                        | false =>
                          by_cases hs : j = i2 + 1
                          · have hsz : ((j : Int) == (i2 : Int) + 1) = true := by simp; omega
                            have HS : Hid _ := hs
                            clear hs
                            go_wp2_with (go_at_call 21; refine (isDigit_any _ _).mono ?_; rintro e w' ⟨rfl, rfl⟩; rw [hd])
                            go_ret2
                            exact ⟨rfl, 0, false, rfl, by simp⟩
                          · have hsz : ((j : Int) == (i2 : Int) + 1) = false := by simp; omega
                            have HS : Hid _ := hs
                            clear hs
                            go_wp2_with (go_at_call 21; refine (isDigit_any _ _).mono ?_; rintro e w' ⟨rfl, rfl⟩; rw [hd])
                            go_ret2
                            exact ⟨rfl, j, true, rfl, fun _ => ⟨by omega, by omega, hNj⟩⟩
                      · have hjz : ¬ (j : Int) < (n : Int) := by omega
                        by_cases hs : j = i2 + 1
                        · have hsz : ((j : Int) == (i2 : Int) + 1) = true := by simp; omega
                          have HS : Hid _ := hs
                          clear hs
                          go_wp2_with fail
                          go_ret2
                          exact ⟨rfl, 0, false, rfl, by simp⟩
                        · have hsz : ((j : Int) == (i2 : Int) + 1) = false := by simp; omega
                          have HS : Hid _ := hs
                          clear hs
                          go_wp2_with fail
                          go_ret2
                          exact ⟨rfl, j, true, rfl, fun _ => ⟨by omega, by omega, hNj⟩⟩
              · have s101 : (x2 == 101) = false := by simp; omega
                have s69 : (x2 == 69) = false := by simp; omega
                clear hE
                go_wp2_with fail
                go_ret2
                exact ⟨rfl, i2, true, rfl, fun _ => ⟨hpi2, hin2, hN2⟩⟩
            · have hiz2 : ¬ (i2 : Int) < (n : Int) := by omega
              go_wp2_with fail
              go_ret2
              exact ⟨rfl, i2, true, rfl, fun _ => ⟨hpi2, hin2, hN2⟩⟩
        · have hiz1 : ¬ (i1 : Int) < (n : Int) := by omega
          go_wp2_with fail
          go_ret2
          exact ⟨rfl, i1, true, rfl, fun _ => ⟨hpi1, hin1, hN1⟩⟩
    · have hiz : ¬ (i : Int) < (n : Int) := by omega
      go_wp2_with fail
      go_ret2
      exact ⟨rfl, 0, false, rfl, by simp⟩
end Go.Proofs.Qxb6602274a
