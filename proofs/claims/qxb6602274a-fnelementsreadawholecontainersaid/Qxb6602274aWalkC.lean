/-
  Words: mParseWord.
-/
import Derived.Test.Qxb6602274aWalkB
namespace Go.Proofs.Qxb6602274a
open Go.RowKit

/-- What mParseWord answers. -/
def WordP (t : List Int) (p n : Nat) (s : ByteArray) (e : Ending) : Prop := ∃ (q : Nat) (ok : Bool), e = .returned (.tuple #[.int .i64 q, .bool ok]) ∧ (ok = true → q = p + s.size ∧ q ≤ n ∧ NumTo t p q)

set_option maxHeartbeats 2000000 in
theorem parseWord_any (a : Option Addr) (b off n c p : Nat) (t : List Int) (s : ByteArray) (w : World) (ht : Txt w a b off n t) (hn : n ≤ 65536) (hp : p < n) (hs0 : 0 < s.size) (hs : s.size ≤ 10) (hsb : ∀ k (h : k < s.size), Pl.plainB (s[k].toNat : Int) = true) :
    Calls Try.prog 20 #[.slice a n c, .int .i64 p, .string s] w fun e w' => (∃ m, w' = w.drewN m) ∧ WordP t p n s e := by
  obtain rfl := ht.addr (by omega)
  have HSB : Hid _ := hsb
  clear hsb
  by_cases hlen : n - p < s.size
  · have hlz : (n : Int) - (p : Int) < (s.size : Int) := by omega
    go_enter Try.func20, Try.ntmps20
    go_wp2_with fail
    go_ret2
    exact ⟨⟨0, rfl⟩, 0, false, rfl, by simp⟩
  · have hlz : ¬ (n : Int) - (p : Int) < (s.size : Int) := by omega
    go_enter Try.func20, Try.ntmps20
    go_wp2_with fail
    go_loopg [8] s.size (fun g s8 wr => ∃ k m : Nat, s8 = .int .i64 k ∧ g = s.size - k ∧ k ≤ s.size ∧ NumTo t p (p + k) ∧ wr = w.drewN m)
    case atStart => exact ⟨0, 0, rfl, rfl, Nat.zero_le _, NumTo.start t p, rfl⟩
    case round =>
      obtain ⟨k, m, rfl, rfl, hk, hN, rfl⟩ := hrel
      by_cases hkl : k < s.size
      · have hkz : (k : Int) < (s.size : Int) := by omega
        obtain ⟨x, hx⟩ : ∃ x, x = t.getD (p + k) 0 := ⟨_, rfl⟩
        have hcx : w.cell? ⟨b, off + (p + k), none⟩ = some (.int .u8 x) := by rw [hx]; exact ht.cell (p + k) (by omega)
        have HG : Hid (t[p + k]? = some x) := by rw [hx]; exact ht.get (by omega)
        clear hx
        have hpk : (p : Int) + (k : Int) < (n : Int) := by omega
        go_wp2_with fail
        go_quiet (fail)
        go_wp2_with fail
        · go_ret2
          exact ⟨⟨m + nq, by simp⟩, 0, false, rfl, by simp⟩
        · have hx : (x != (s[k].toNat : Int)) = false := by assumption
          have hx' : x = (s[k].toNat : Int) := by simpa using hx
          go_roundg (s.size - (k + 1))
          case measure => go_light; omega
          case rel => go_light; exact ⟨k + 1, m + nq, by go_num, rfl, by omega, hN.more HG.out (by rw [hx']; exact HSB.out k hkl), rfl⟩
      · have hkz : ¬ (k : Int) < (s.size : Int) := by omega
        obtain rfl : k = s.size := by omega
        go_wp2_with fail
        go_ret2
        exact ⟨⟨m, rfl⟩, p + s.size, true, by simp, fun _ => ⟨rfl, by omega, hN⟩⟩

theorem below_drewN' {B : Nat} {a w : World} (h : Below B a w) (m : Nat) : Below B a (w.drewN m) := by
  induction m with
  | zero => exact h
  | succ m ih => exact Below.drew ih

/-! ### A value, given what is known of containers -/
def flatS (sp : List Pl.Span) : List Value := sp.flatMap (fun s => [.int .i64 s.na, .int .i64 s.nb, .int .i64 s.va, .int .i64 s.vb, .int .i64 s.kind])

/-- What mParseContainer answers. -/
def ContP (t : List Int) (p n : Nat) (obj keep : Bool) (w : World) (e : Ending) (w' : World) : Prop :=
  Below w.heap.size w w' ∧ ∃ (v : Value) (c q : Nat) (ok : Bool), e = .returned (.tuple #[v, .int .i64 c, .int .i64 q, .bool ok]) ∧
    (ok = true → q = c + 1 ∧ q ≤ n ∧ ∃ sp, Pl.Cont t obj p sp c ∧ (keep = true → sp.length ≤ n ∧ w'.ownsRow w.heap.size 31 5 v sp.length (flatS sp)))

/-- What mParseValue answers. -/
def ValP (t : List Int) (p : Nat) (w : World) (e : Ending) (w' : World) : Prop :=
  Below w.heap.size w w' ∧ ∃ (q k : Nat) (ok : Bool), e = .returned (.tuple #[.int .i64 q, .int .i64 k, .bool ok]) ∧ (ok = true → Pl.VP t p q k)

set_option maxHeartbeats 4000000 in
set_option maxRecDepth 100000 in
theorem parseValue_of (a : Option Addr) (b off n c p : Nat) (t : List Int) (w : World) (ht : Txt w a b off n t) (hn : n ≤ 65536)
    (hC : ∀ x, t[p]? = some x → (x = 91 ∨ x = 123) → p < n → Calls Try.prog 16 #[.slice a n c, .int .i64 p, .bool false] w fun e w' => ContP t p n (x == 123) false w e w') :
    Calls Try.prog 7 #[.slice a n c, .int .i64 p] w fun e w' => ValP t p w e w' := by
  have HC : Hid _ := hC
  clear hC
  by_cases hpn : p < n
  · obtain rfl := ht.addr (by omega)
    obtain ⟨x, hx⟩ : ∃ x, x = t.getD p 0 := ⟨_, rfl⟩
    have hcx : w.cell? ⟨b, off + p, none⟩ = some (.int .u8 x) := by rw [hx]; exact ht.cell p hpn
    have HG : Hid (t[p]? = some x) := by rw [hx]; exact ht.get hpn
    clear hx
    have hpz : (p : Int) < (n : Int) := by omega
    have hnp : ¬ n ≤ p := by omega
    by_cases h34 : x = 34
    · subst h34
      go_enter Try.func7, Try.ntmps7
      go_wp2_with (go_at_call 19; refine (parseString_any _ _ _ _ _ _ _ _ ht hn).mono ?_; rintro e w' ⟨rfl, q, ok, rfl, hq⟩)
      go_ret3
      exact ⟨Below.refl _ _, q, 3, ok, rfl, fun h => Pl.vp_str (hq h).1 (hq h).2⟩
    have e34 : (x == 34) = false := by simp [h34]
    by_cases h91 : x = 91
    · subst h91
      go_enter Try.func7, Try.ntmps7
      go_wp2_with (go_at_call 16; refine (HC.out _ HG.out (.inl rfl) hpn).mono ?_; rintro e w' ⟨hb, v, c', q, ok, rfl, hq⟩)
      go_ret3
      exact ⟨hb, q, 4, ok, rfl, fun h => by
        obtain ⟨h1, _, sp, hsp, _⟩ := hq h
        rw [h1]; exact Pl.vp_cont HG.out (.inl ⟨rfl, rfl⟩) hsp.2⟩
    have e91 : (x == 91) = false := by simp [h91]
    by_cases h123 : x = 123
    · subst h123
      go_enter Try.func7, Try.ntmps7
      go_wp2_with (go_at_call 16; refine (HC.out _ HG.out (.inr rfl) hpn).mono ?_; rintro e w' ⟨hb, v, c', q, ok, rfl, hq⟩)
      go_ret3
      exact ⟨hb, q, 5, ok, rfl, fun h => by
        obtain ⟨h1, _, sp, hsp, _⟩ := hq h
        rw [h1]; exact Pl.vp_cont HG.out (.inr ⟨rfl, rfl⟩) hsp.2⟩
    have e123 : (x == 123) = false := by simp [h123]
    by_cases h116 : x = 116
    · subst h116
      go_enter Try.func7, Try.ntmps7
      go_wp2_with (go_at_call 20; refine (parseWord_any _ _ _ _ _ _ _ _ _ ht hn hpn (by decide) (by decide) (by decide)).mono ?_; rintro e w' ⟨⟨m, rfl⟩, q, ok, rfl, hq⟩)
      go_ret3
      exact ⟨below_drewN' (Below.refl _ _) _, q, 2, ok, rfl, fun h => Pl.vp_plain (by have := (hq h).1; have : (⟨#[116, 114, 117, 101]⟩ : ByteArray).size = 4 := rfl; omega) (by have := (hq h).2.1; rw [ht.len]; exact this) (hq h).2.2.all HG.out rfl⟩
    have e116 : (x == 116) = false := by simp [h116]
    by_cases h102 : x = 102
    · subst h102
      go_enter Try.func7, Try.ntmps7
      go_wp2_with (go_at_call 20; refine (parseWord_any _ _ _ _ _ _ _ _ _ ht hn hpn (by decide) (by decide) (by decide)).mono ?_; rintro e w' ⟨⟨m, rfl⟩, q, ok, rfl, hq⟩)
      go_ret3
      exact ⟨below_drewN' (Below.refl _ _) _, q, 2, ok, rfl, fun h => Pl.vp_plain (by have := (hq h).1; have : (⟨#[102, 97, 108, 115, 101]⟩ : ByteArray).size = 5 := rfl; omega) (by have := (hq h).2.1; rw [ht.len]; exact this) (hq h).2.2.all HG.out rfl⟩
    have e102 : (x == 102) = false := by simp [h102]
    by_cases h110 : x = 110
    · subst h110
      go_enter Try.func7, Try.ntmps7
      go_wp2_with (go_at_call 20; refine (parseWord_any _ _ _ _ _ _ _ _ _ ht hn hpn (by decide) (by decide) (by decide)).mono ?_; rintro e w' ⟨⟨m, rfl⟩, q, ok, rfl, hq⟩)
      go_ret3
      exact ⟨below_drewN' (Below.refl _ _) _, q, 1, ok, rfl, fun h => Pl.vp_plain (by have := (hq h).1; have : (⟨#[110, 117, 108, 108]⟩ : ByteArray).size = 4 := rfl; omega) (by have := (hq h).2.1; rw [ht.len]; exact this) (hq h).2.2.all HG.out rfl⟩
    have e110 : (x == 110) = false := by simp [h110]
    have HK : Hid (6 = Pl.kindOf x) := by unfold Pl.kindOf Hid; simp [h110, h116, h102, h34, h91, h123]
    by_cases h45 : x = 45
    · subst h45
      go_enter Try.func7, Try.ntmps7
      go_wp2_with (go_at_call 22; refine (parseNumber_any _ _ _ _ _ _ _ _ ht hn hpn).mono ?_; rintro e w' ⟨rfl, q, ok, rfl, hq⟩)
      go_ret3
      exact ⟨Below.refl _ _, q, 6, ok, rfl, fun h => Pl.vp_plain (hq h).1 (by rw [ht.len]; exact (hq h).2.1) (hq h).2.2.all HG.out HK.out⟩
    have e45 : (x == 45) = false := by simp [h45]
    cases hd : digB x with
    | true =>
      go_enter Try.func7, Try.ntmps7
      go_wp2_with (first | (go_at_call 21; refine (isDigit_any _ _).mono ?_; rintro e w' ⟨rfl, rfl⟩; rw [hd]) | (go_at_call 22; refine (parseNumber_any _ _ _ _ _ _ _ _ ht hn hpn).mono ?_; rintro e w' ⟨rfl, q, ok, rfl, hq⟩))
      go_ret3
      exact ⟨Below.refl _ _, q, 6, ok, rfl, fun h => Pl.vp_plain (hq h).1 (by rw [ht.len]; exact (hq h).2.1) (hq h).2.2.all HG.out HK.out⟩
    | false =>
      go_enter Try.func7, Try.ntmps7
      go_wp2_with (go_at_call 21; refine (isDigit_any _ _).mono ?_; rintro e w' ⟨rfl, rfl⟩; rw [hd])
      go_ret3
      exact ⟨Below.refl _ _, 0, 0, false, rfl, by simp⟩
  · have hpz : ¬ (p : Int) < (n : Int) := by omega
    go_enter Try.func7, Try.ntmps7
    go_wp2_with fail
    go_ret3
    exact ⟨Below.refl _ _, 0, 0, false, rfl, by simp⟩
end Go.Proofs.Qxb6602274a
