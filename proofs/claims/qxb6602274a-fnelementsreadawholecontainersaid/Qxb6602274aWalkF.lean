/-
  valueLen, trimSpace, jsonType, mKindName and the small ones.
-/
import Derived.Test.Qxb6602274aWalkE
namespace Go.Proofs.Qxb6602274a
open Go.RowKit

theorem Txt.shift {w : World} {a : Option Addr} {b off n : Nat} {t : List Int} (h : Txt w a b off n t) (i : Nat) : Txt w (some ⟨b, off + i, none⟩) b (off + i) (n - i) (t.drop i) := by
  have e : ∀ j, (t.drop i).getD j 0 = t.getD (i + j) 0 := fun j => by simp [List.getD_eq_getElem?_getD, List.getElem?_drop]
  refine ⟨by simp [h.len], fun _ => rfl, fun j hj => ?_, fun j hj => ?_⟩
  · rw [e, Nat.add_assoc]; exact h.cell (i + j) (by omega)
  · rw [e]; exact h.byte (i + j) (by omega)

theorem Txt.at {w : World} {a : Option Addr} {b off n : Nat} {t : List Int} (h : Txt w a b off n t) {i : Nat} {x : Int} (hx : t[i]? = some x) : i < n ∧ w.cell? ⟨b, off + i, none⟩ = some (.int .u8 x) := by
  have hi : i < n := by have := (List.getElem?_eq_some_iff.1 hx).1; rw [h.len] at this; exact this
  have := h.get hi
  rw [hx] at this
  refine ⟨hi, ?_⟩
  rw [Option.some.inj this]
  exact h.cell i hi

set_option maxHeartbeats 1000000 in
theorem vl_str (a : Option Addr) (b off n c e : Nat) (t : List Int) (w : World) (ht : Txt w a b off n t) (hn : n ≤ 65536) (h0 : t[0]? = some 34) (hs : Pl.SkS t 1 1 e) :
    Calls Try.prog 24 #[.slice a n c] w fun r w' => r = .returned (.int .i64 e) ∧ w' = w := by
  obtain ⟨hn0, hc0⟩ := ht.at h0
  obtain rfl := ht.addr hn0
  have HS : Hid (Pl.SkS t 1 1 e) := hs
  have H0 : Hid (t[0]? = some 34) := h0
  clear hs h0
  have hc0' : w.cell? ⟨b, off, none⟩ = some (.int .u8 34) := hc0
  clear hc0
  go_enter Try.func24, Try.ntmps24
  go_wp2_with fail
  go_loop [3] (fun s3 => ∃ q : Nat, s3 = .int .i64 q ∧ Pl.SkS t q 1 e) (fun s => n - (intOf s).toNat)
  case atStart => exact ⟨1, rfl, HS.out⟩
  case round =>
    obtain ⟨q, rfl, hq⟩ := hrel
    have hle := hq.lt
    rw [ht.len] at hle
    have HQ : Hid (Pl.SkS t q 1 e) := hq
    clear hq hc0'
    obtain ⟨x, hx⟩ : ∃ x, t[q]? = some x := ⟨_, ht.get (by omega)⟩
    obtain ⟨_, hcx⟩ := ht.at hx
    have HG : Hid (t[q]? = some x) := hx
    clear hx
    have hqz : (q : Int) < (n : Int) := by omega
    by_cases h92 : x = 92
    · subst h92
      have h2 := (Pl.sks_bs HG.out rfl).1 HQ.out
      have hle2 := h2.lt
      rw [ht.len] at hle2
      have h3 := (Pl.sks_e (ht.get (show q + 1 < n by omega))).1 h2
      have HH : Hid (Pl.SkS t (q + 1 + 1) 1 e) := h3
      clear h3 h2
      go_wp2_with fail
      go_round
      case rel => exact ⟨q + 1 + 1, by go_num, HH.out⟩
      case measure => simp [intOf]; omega
    have e92 : (x == 92) = false := by simp [h92]
    by_cases h34 : x = 34
    · subst h34
      have h2 := (Pl.sks_quote HG.out rfl).1 HQ.out
      clear e92 h92
      go_wp2_with fail
      go_ret
      exact ⟨by subst h2; rfl, rfl⟩
    have e34 : (x == 34) = false := by simp [h34]
    have HH : Hid (Pl.SkS t (q + 1) 1 e) := (Pl.sks_other HG.out h34 h92).1 HQ.out
    go_wp2_with fail
    go_round
    case rel => exact ⟨q + 1, by go_num, HH.out⟩
    case measure => simp [intOf]; omega

theorem delim_iff {x : Int} (h : Pl.delim x = false) : Pl.isW x = false ∧ x ≠ 44 ∧ x ≠ 93 ∧ x ≠ 125 := by
  simp [Pl.delim] at h
  exact ⟨h.1.1.1, h.1.1.2, h.1.2, h.2⟩
theorem delim_true {x : Int} (h : Pl.delim x = true) : Pl.isW x = true ∨ (Pl.isW x = false ∧ x = 44) ∨ (Pl.isW x = false ∧ x = 93) ∨ (Pl.isW x = false ∧ x = 125) := by
  cases hw : Pl.isW x with
  | true => exact .inl rfl
  | false =>
    simp [Pl.delim, hw] at h
    rcases h with (h | h) | h
    · exact .inr (.inl ⟨rfl, h⟩)
    · exact .inr (.inr (.inl ⟨rfl, h⟩))
    · exact .inr (.inr (.inr ⟨rfl, h⟩))

set_option maxHeartbeats 1000000 in
theorem vl_scalar (a : Option Addr) (b off n c e : Nat) (t : List Int) (w : World) (ht : Txt w a b off n t) (hn : n ≤ 65536) {x0 : Int} (h0 : t[0]? = some x0) (h34 : x0 ≠ 34) (h91 : x0 ≠ 91) (h123 : x0 ≠ 123)
    (hs : ∀ i, 0 < i → i < e → ∃ x, t[i]? = some x ∧ Pl.delim x = false) (he : 0 < e) (hf : Pl.Fol t e) :
    Calls Try.prog 24 #[.slice a n c] w fun r w' => r = .returned (.int .i64 e) ∧ w' = w := by
  obtain ⟨hn0, hc0⟩ := ht.at h0
  obtain rfl := ht.addr hn0
  obtain ⟨y, hy, hyd⟩ := hf
  obtain ⟨hen, hcy⟩ := ht.at hy
  have HS : Hid (∀ i, 0 < i → i < e → ∃ x, t[i]? = some x ∧ Pl.delim x = false) := hs
  clear hs h0 hy
  have hc0' : w.cell? ⟨b, off, none⟩ = some (.int .u8 x0) := hc0
  clear hc0
  have e1 : (x0 == 34) = false := by simp [h34]
  have e2 : (x0 == 91) = false := by simp [h91]
  have e3 : (x0 == 123) = false := by simp [h123]
  go_enter Try.func24, Try.ntmps24
  go_wp2_with fail
  go_loop [6] (fun s6 => ∃ q : Nat, s6 = .int .i64 q ∧ 0 < q ∧ q ≤ e) (fun s => n - (intOf s).toNat)
  case atStart => exact ⟨1, rfl, by omega, by omega⟩
  case round =>
    obtain ⟨q, rfl, hq0, hqe⟩ := hrel
    have hqz : (q : Int) < (n : Int) := by omega
    by_cases hlt : q < e
    · obtain ⟨x, hx, hxd⟩ := HS.out q hq0 hlt
      obtain ⟨_, hcx⟩ := ht.at hx
      obtain ⟨d1, d2, d3, d4⟩ := delim_iff hxd
      have f2 : (x != 44) = true := by simp [d2]
      have f3 : (x != 93) = true := by simp [d3]
      have f4 : (x != 125) = true := by simp [d4]
      clear hcy hx hxd
      go_wp2_with (go_at_call 29; refine (isSpace_any _ _).mono ?_; rintro e w' ⟨rfl, rfl⟩; rw [d1])
      go_round
      case rel => exact ⟨q + 1, by go_num, by omega, by omega⟩
      case measure => simp [intOf]; omega
    · obtain rfl : q = e := by omega
      rcases delim_true hyd with hw | ⟨hw, rfl⟩ | ⟨hw, rfl⟩ | ⟨hw, rfl⟩
      all_goals
        go_wp2_with (go_at_call 29; refine (isSpace_any _ _).mono ?_; rintro e w' ⟨rfl, rfl⟩; rw [hw])
        go_ret
        exact ⟨rfl, rfl⟩

set_option maxHeartbeats 1000000 in
theorem vl_cont (a : Option Addr) (b off n c e : Nat) (t : List Int) (w : World) (ht : Txt w a b off n t) (hn : n ≤ 65536) (hcap : n ≤ c) {x0 : Int} (h0 : t[0]? = some x0) (hx0 : x0 = 91 ∨ x0 = 123) (hs : Pl.Sk t 1 1 0 e) :
    Calls Try.prog 24 #[.slice a n c] w fun r w' => r = .returned (.int .i64 e) ∧ w' = w := by
  obtain ⟨hn0, hc0⟩ := ht.at h0
  obtain rfl := ht.addr hn0
  have HS : Hid (Pl.Sk t 0 0 0 e) := (Pl.sk_open h0 (by omega)).2 hs
  have H0 : Hid (t[0]? = some x0) := h0
  clear hs h0
  have hc0' : w.cell? ⟨b, off, none⟩ = some (.int .u8 x0) := hc0
  clear hc0
  have e1 : (x0 == 34) = false := by rcases hx0 with rfl | rfl <;> rfl
  obtain ⟨e2, he2⟩ : ∃ e2, (x0 == 123) = e2 := ⟨_, rfl⟩
  have e3 : e2 = false → (x0 == 91) = true := fun h => by subst h; rcases hx0 with rfl | rfl <;> simp_all
  go_enter Try.func24, Try.ntmps24
  cases e2
  all_goals
    first | have e4 := e3 rfl | skip
    go_wp2_with fail
    go_loop [4, 5] (fun s4 s5 => ∃ q d : Nat, s4 = .int .i64 d ∧ s5 = .int .i64 q ∧ d ≤ q ∧ (d = 0 → q = 0) ∧ Pl.Sk t q d 0 e) (fun _ s => n - (intOf s).toNat)
    case atStart => exact ⟨0, 0, rfl, rfl, by omega, fun _ => rfl, HS.out⟩
    case round =>
      obtain ⟨q, d, rfl, rfl, hdq, hd0, hq⟩ := hrel
      have hle := hq.fin_le
      rw [ht.len] at hle
      have HQ : Hid (Pl.Sk t q d 0 e) := hq
      clear hq hc0'
      obtain ⟨x, hx⟩ : ∃ x, t[q]? = some x := ⟨_, ht.get (by omega)⟩
      obtain ⟨_, hcx⟩ := ht.at hx
      have HG : Hid (t[q]? = some x) := hx
      clear hx
      have hqz : (q : Int) < (n : Int) := by omega
      by_cases h34 : x = 34
      · subst h34
        obtain ⟨q2, hs1, hs2⟩ := Pl.sk_split ((Pl.sk_quote HG.out rfl).1 HQ.out)
        have hl2 := hs1.lt
        rw [ht.len] at hl2
        have hS : Pl.SkS (t.drop q) 1 1 (q2 - q) := Pl.sks_shift.2 (by rw [show q + (q2 - q) = q2 by omega]; exact hs1)
        have hH : (t.drop q)[0]? = some 34 := by rw [List.getElem?_drop]; exact HG.out
        have HV := fun c' => vl_str _ b (off + q) (n - q) c' (q2 - q) (t.drop q) w (ht.shift q) (by omega) hH hS
        have HV' : Hid (∀ c', Calls Try.prog 24 #[.slice (some ⟨b, off + q, none⟩) (n - q) c'] w fun r w' => r = .returned (.int .i64 ((q2 - q : Nat) : Int)) ∧ w' = w) := HV
        have HD : Hid (d = 0 → q = 0) := hd0
        have H2 : Hid (Pl.Sk t q2 d 0 e) := hs2
        clear HV hS hH hs1 hs2 hd0
        go_wp2_with (go_at_call 24; refine (HV'.out _).mono ?_; rintro r w' ⟨rfl, rfl⟩)
        go_round
        case rel => exact ⟨q2, d, rfl, by go_num, by omega, fun h => by
          obtain rfl := HD.out h
          have := HG.out
          rw [H0.out] at this
          obtain rfl := Option.some.inj this
          rcases hx0 with h | h <;> omega, H2.out⟩
        case measure => simp [intOf]; omega
      have e34 : (x == 34) = false := by simp [h34]
      by_cases hop : x = 123 ∨ x = 91
      · have HH : Hid (Pl.Sk t (q + 1) (d + 1) 0 e) := (Pl.sk_open HG.out hop).1 HQ.out
        rcases hop with rfl | rfl
        all_goals
          clear e34 h34
          go_wp2_with fail
          go_round
          case rel => exact ⟨q + 1, d + 1, by go_num, by go_num, by omega, by omega, HH.out⟩
          case measure => simp [intOf]; omega
      have e123 : (x == 123) = false := by simp; omega
      have e91 : (x == 91) = false := by simp; omega
      have hdp : d ≠ 0 → 1 ≤ d := by omega
      by_cases hcl : x = 125 ∨ x = 93
      · have hd1 : 1 ≤ d := by
          refine hdp fun h => ?_
          obtain rfl := hd0 h
          have := HG.out
          rw [H0.out] at this
          obtain rfl := Option.some.inj this
          rcases hx0 with h | h <;> omega
        by_cases hd : d = 1
        · subst hd
          have hfin := (Pl.sk_last HG.out hcl).1 HQ.out
          have HF : Hid (e = q + 1) := hfin
          clear hfin hd0 hdp
          rcases hcl with rfl | rfl
          all_goals
            clear e34 h34 e123 e91 hop
            go_wp2_with fail
            go_ret
            exact ⟨by obtain rfl := HF.out; rfl, rfl⟩
        · obtain ⟨d', rfl⟩ : ∃ d', d = d' + 1 := ⟨d - 1, by omega⟩
          have HH : Hid (Pl.Sk t (q + 1) d' 0 e) := (Pl.sk_close HG.out hcl (by omega)).1 HQ.out
          have hdz : ((((d' + 1 : Nat) : Int) - 1) == 0) = false := by simp; omega
          have hdz2 : (((d' : Nat) : Int) == 0) = false := by simp; omega
          clear hd0 hdp
          rcases hcl with rfl | rfl
          all_goals
            clear e34 h34 e123 e91 hop
            go_wp2_with fail
            go_round
            case rel => exact ⟨q + 1, d', by go_num, by go_num, by omega, by omega, HH.out⟩
            case measure => simp [intOf]; omega
      have e125 : (x == 125) = false := by simp; omega
      have e93 : (x == 93) = false := by simp; omega
      have HH : Hid (Pl.Sk t (q + 1) d 0 e) := (Pl.sk_other HG.out (by omega) (by omega) (by omega) (by omega) (by omega)).1 HQ.out
      have hd1 : 1 ≤ d := by
        refine hdp fun h => ?_
        obtain rfl := hd0 h
        have := HG.out
        rw [H0.out] at this
        obtain rfl := Option.some.inj this
        rcases hx0 with h | h <;> omega
      clear hd0 hdp hop hcl
      go_wp2_with fail
      go_round
      case rel => exact ⟨q + 1, d, rfl, by go_num, by omega, by omega, HH.out⟩
      case measure => simp [intOf]; omega

end Go.Proofs.Qxb6602274a
