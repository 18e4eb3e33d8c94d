/-
  The walks over the cursor: ZZNewCursor, ZZAt, skipString, Skip.
-/
import Derived.Test.Qxb6602166aWalkB
import Derived.Deep.QuietTactic
import Derived.BigQuiet
namespace Go.Proofs.Qxb6602166a
open Go.RowKit

/-- The cursor in block C: its text, its place. -/
def Cur (w : World) (C : Nat) (a : Option Addr) (n c p : Nat) : Prop := w.rowIs C 36 2 (fun i => if i = 0 then .slice a n c else .int .i64 p)

theorem Cur.c0 {w : World} {C : Nat} {a : Option Addr} {n c p : Nat} (h : Cur w C a n c p) : w.cell? ⟨C, 0, none⟩ = some (.slice a n c) := World.rowIs.cell h (i := 0) (by omega)
theorem Cur.c1 {w : World} {C : Nat} {a : Option Addr} {n c p : Nat} (h : Cur w C a n c p) : w.cell? ⟨C, 1, none⟩ = some (.int .i64 p) := World.rowIs.cell h (i := 1) (by omega)
theorem Cur.f1 {w : World} {C : Nat} {a : Option Addr} {n c p : Nat} (h : Cur w C a n c p) : w.frozen? ⟨C, 1, none⟩ = false := World.rowIs.frozen h 1
theorem Cur.set {w : World} {C : Nat} {a : Option Addr} {n c p : Nat} (h : Cur w C a n c p) (q : Nat) (z : Int) (hz : z = q) : Cur (w.setCell ⟨C, 1, none⟩ (.int .i64 z)) C a n c q := by
  subst hz
  refine (World.rowIs.set h 1 _).congr (fun i hi => ?_)
  match i, hi with
  | 0, _ => rfl
  | 1, _ => rfl
theorem Cur.drewN {w : World} {C : Nat} {a : Option Addr} {n c p : Nat} (h : Cur w C a n c p) (m : Nat) : Cur (w.drewN m) C a n c p :=
  World.rowIs.of_block h (by rw [(World.drewN_alike w m).1])
theorem Cur.below {w w' : World} {C B : Nat} {a : Option Addr} {n c p : Nat} (h : Cur w C a n c p) (hb : Below B w w') (hC : C < B) : Cur w' C a n c p :=
  World.rowIs.of_block h (hb.block C hC)

theorem newCursor_any (a : Option Addr) (n c p : Nat) (z : Int) (hz : z = p) (w : World) :
    Calls Try.prog 9 #[.slice a n c, .int .i64 z] w fun e w' => e = .returned (.pointer (some ⟨w.heap.size, 0, none⟩)) ∧ Cur w' w.heap.size a n c p ∧ Below w.heap.size w w' ∧ w'.heap.size = w.heap.size + 1 := by
  subst hz
  go_enter Try.func9, Try.ntmps9
  go_wp2
  go_ret
  refine ⟨rfl, ?_, (Below.refl _ _).alloc (Nat.le_refl _) _, by simp⟩
  exact World.rowIs_alloc w #[.slice a n c, .int .i64 p] 36 _ (fun i hi => by
    match i, hi with
    | 0, _ => rfl
    | 1, _ => rfl)

theorem at_any (C : Nat) (a : Option Addr) (n c p : Nat) (w : World) (h : Cur w C a n c p) :
    Calls Try.prog 11 #[.pointer (some ⟨C, 0, none⟩)] w fun e w' => e = .returned (.int .i64 p) ∧ w' = w := by
  have h1 := h.c1
  go_enter Try.func11, Try.ntmps11
  go_wp2
  go_ret
  exact ⟨rfl, rfl⟩

/-- What skipString leaves. -/
def StrPost (C : Nat) (a : Option Addr) (n c : Nat) (t : List Int) (p d fin : Nat) (w : World) (e : Ending) (w' : World) : Prop :=
  ∃ (q : Nat) (esc : Bool), e = .returned (.bool esc) ∧ p < q ∧ Cur w' C a n c q ∧ Pl.Sk t q d 0 fin ∧ Below C w w' ∧ w'.heap.size = w.heap.size

theorem below_drewN' {B : Nat} {a w : World} (h : Below B a w) (m : Nat) : Below B a (w.drewN m) := by
  have e := World.drewN_alike w m
  induction m with
  | zero => exact h
  | succ m ih => exact Below.drew (ih (World.drewN_alike w m))

set_option maxHeartbeats 1000000 in
theorem skipString_any (C : Nat) (a : Option Addr) (b off n c : Nat) (t : List Int) (p d fin : Nat) (w : World) (hc : Cur w C a n c p) (ht : Txt w a b off n t) (hb : 0 < n → b < C) (hs : Pl.Sk t (p + 1) d 1 fin) (hn : n ≤ 1048576) :
    Calls Try.prog 17 #[.pointer (some ⟨C, 0, none⟩)] w fun e w' => StrPost C a n c t p d fin w e w' := by
  have hlt := hs.lt
  rw [ht.len] at hlt
  obtain rfl := ht.addr (by omega)
  have hbC := hb (by omega)
  have h1 := hc.c1
  have h2 := hc.f1
  go_enter Try.func17, Try.ntmps17
  go_wp2
  go_loopg [2] (n - (p + 1)) (fun g s2 wr => ∃ (q : Nat) (esc : Bool), s2 = .bool esc ∧ g = n - q ∧ p < q ∧ Cur wr C (some ⟨b, off, none⟩) n c q ∧ Pl.Sk t q d 1 fin ∧ Below C w wr ∧ wr.heap.size = w.heap.size)
  case atStart => exact ⟨p + 1, false, rfl, rfl, by omega, hc.set _ _ (by omega), hs, (Below.refl _ _).setCell (p := ⟨C, 1, none⟩) (Nat.le_refl _) _, by simp⟩
  case round =>
    obtain ⟨q, esc, rfl, rfl, hpq, hcr, hsr, hbr, hsz⟩ := hrel
    clear h1 h2
    have hql := hsr.lt
    rw [ht.len] at hql
    have h0 := hcr.c0
    have h1 := hcr.c1
    have h2 := hcr.f1
    obtain ⟨x, hx⟩ : ∃ x, x = t.getD q 0 := ⟨_, rfl⟩
    have hcx : wr.cell? ⟨b, off + q, none⟩ = some (.int .u8 x) := by rw [hbr.cell (p := ⟨b, off + q, none⟩) hbC, hx]; exact ht.cell q hql
    have hgx : t[q]? = some x := by rw [hx]; exact ht.get hql
    have HG : Hid (t[q]? = some x) := hgx
    clear hx hgx
    have hqz : (q : Int) < (n : Int) := by omega
    by_cases h34 : x = 34
    · subst h34
      have HS := (Pl.sk_s_quote HG.out rfl).1 hsr
      go_wp2_with fail
      go_quiet (fail)
      go_wp2
      go_ret
      exact ⟨q + 1, esc, rfl, by omega, (hcr.drewN _).set _ _ (by omega), HS, (below_drewN' hbr _).setCell (p := ⟨C, 1, none⟩) (Nat.le_refl _) _, by simpa using hsz⟩
    · have e34 : (x != 34) = true := by simp [h34]
      by_cases h92 : x = 92
      · subst h92
        have HS1 := (Pl.sk_s_bs HG.out rfl).1 hsr
        have hq1 := HS1.lt
        rw [ht.len] at hq1
        have HS := (Pl.sk_e (ht.get hq1)).1 HS1
        clear h34 e34 HS1
        go_wp2_with fail
        go_quiet (fail)
        go_wp2_with fail
        go_quiet (fail)
        go_wp2
        go_roundg (n - (q + 1 + 1))
        case measure => go_light; omega
        case rel =>
          go_light
          exact ⟨q + 1 + 1, true, rfl, rfl, by omega, (((hcr.drewN _).set (q + 1) _ (by omega)).set _ _ (by omega)), HS, ((below_drewN' hbr _).setCell (p := ⟨C, 1, none⟩) (Nat.le_refl _) _).setCell (p := ⟨C, 1, none⟩) (Nat.le_refl _) _, by simpa using hsz⟩
      · have e92 : (x == 92) = false := by simp [h92]
        have HS := (Pl.sk_s_other HG.out h34 h92).1 hsr
        go_wp2_with fail
        go_quiet (fail)
        go_wp2_with fail
        go_quiet (fail)
        go_wp2
        go_roundg (n - (q + 1))
        case measure => go_light; omega
        case rel =>
          go_light
          exact ⟨q + 1, esc, rfl, rfl, by omega, (hcr.drewN _).set _ _ (by omega), HS, (below_drewN' hbr _).setCell (p := ⟨C, 1, none⟩) (Nat.le_refl _) _, by simpa using hsz⟩

/-- What Skip leaves. -/
def SkipPost (C : Nat) (a : Option Addr) (n c fin : Nat) (w : World) (e : Ending) (w' : World) : Prop :=
  e = .returned (.tuple #[]) ∧ Cur w' C a n c fin ∧ Below C w w' ∧ w'.heap.size = w.heap.size

set_option maxHeartbeats 1000000 in
theorem skip_any (C : Nat) (a : Option Addr) (b off n c : Nat) (t : List Int) (p fin : Nat) (w : World) (hc : Cur w C a n c p) (ht : Txt w a b off n t) (hb : 0 < n → b < C) (hs : Pl.Sk t p 1 0 fin) (hn : n ≤ 1048576) :
    Calls Try.prog 14 #[.pointer (some ⟨C, 0, none⟩)] w fun e w' => SkipPost C a n c fin w e w' := by
  have hlt := hs.lt
  rw [ht.len] at hlt
  obtain rfl := ht.addr (by omega)
  have hbC := hb (by omega)
  go_enter Try.func14, Try.ntmps14
  go_wp2_with fail
  go_loopg [2] (n + 1 - p) (fun g s2 wr => ∃ (q d : Nat), s2 = .int .i64 d ∧ g = n + 1 - q ∧ q ≤ n ∧ d ≤ q + 1 ∧ Cur wr C (some ⟨b, off, none⟩) n c q ∧ ((d = 0 ∧ q = fin) ∨ (1 ≤ d ∧ Pl.Sk t q d 0 fin)) ∧ Below C w wr ∧ wr.heap.size = w.heap.size)
  case atStart => exact ⟨p, 1, rfl, rfl, by omega, by omega, hc, .inr ⟨Nat.le_refl _, hs⟩, Below.refl _ _, rfl⟩
  case round =>
    obtain ⟨q, d, rfl, rfl, hqn, hdq, hcr, hsr, hbr, hsz⟩ := hrel
    rcases hsr with ⟨rfl, rfl⟩ | ⟨hd, hsr⟩
    · go_wp2_with fail
      go_end0
      exact ⟨rfl, hcr, hbr, hsz⟩
    · have hql := hsr.lt
      rw [ht.len] at hql
      have h0 := hcr.c0
      have h1 := hcr.c1
      have h2 := hcr.f1
      obtain ⟨x, hx⟩ : ∃ x, x = t.getD q 0 := ⟨_, rfl⟩
      have hcx : wr.cell? ⟨b, off + q, none⟩ = some (.int .u8 x) := by rw [hbr.cell (p := ⟨b, off + q, none⟩) hbC, hx]; exact ht.cell q hql
      have hgx : t[q]? = some x := by rw [hx]; exact ht.get hql
      have HG : Hid (t[q]? = some x) := hgx
      clear hx hgx
      have hqz : (q : Int) < (n : Int) := by omega
      have hdz : (0 : Int) < (d : Int) := by omega
      by_cases h34 : x = 34
      · subst h34
        have HS := (Pl.sk_quote HG.out rfl).1 hsr
        have htr : Txt wr (some ⟨b, off, none⟩) b off n t := ht.below hbr hb
        go_wp2_with fail
        go_quiet (fail)
        have htn : ∀ m, Txt (wr.drewN m) (some ⟨b, off, none⟩) b off n t := fun m => htr.below (below_drewN' (Below.refl C wr) m) hb
        go_wp2_with (go_at_call 17; refine (skipString_any C _ b off n c t q d fin _ (hcr.drewN _) (htn _) hb HS hn).mono ?_; rintro e w' ⟨q', esc, rfl, hqq, hcr', hs', hb', hsz'⟩)
        have hq'l := hs'.lt
        rw [ht.len] at hq'l
        go_roundg (n + 1 - q')
        case measure => go_light; omega
        case rel =>
          go_light
          exact ⟨q', d, rfl, rfl, by omega, by omega, hcr', .inr ⟨hd, hs'⟩, (below_drewN' hbr _).trans hb', by rw [hsz']; simpa using hsz⟩
      · have e34 : (x == 34) = false := by simp [h34]
        by_cases hop : x = 123 ∨ x = 91
        · have HS := (Pl.sk_open HG.out hop).1 hsr
          rcases hop with rfl | rfl
          all_goals
            go_wp2_with fail
            go_quiet (fail)
            go_wp2_with fail
            go_roundg (n + 1 - (q + 1))
            case measure => go_light; omega
            case rel =>
              go_light
              exact ⟨q + 1, d + 1, by go_num, rfl, by omega, by omega, (hcr.drewN _).set _ _ (by omega), .inr ⟨by omega, HS⟩, (below_drewN' hbr _).setCell (p := ⟨C, 1, none⟩) (Nat.le_refl _) _, by simpa using hsz⟩
        · have h123 : x ≠ 123 := fun h => hop (.inl h)
          have h91 : x ≠ 91 := fun h => hop (.inr h)
          have e123 : (x == 123) = false := by simp [h123]
          have e91 : (x == 91) = false := by simp [h91]
          clear hop
          by_cases hcl : x = 125 ∨ x = 93
          · obtain ⟨d', rfl⟩ : ∃ d', d = d' + 1 := ⟨d - 1, by omega⟩
            have HS : Hid ((d' = 0 ∧ q + 1 = fin) ∨ (1 ≤ d' ∧ Pl.Sk t (q + 1) d' 0 fin)) := by
              by_cases hd0 : d' = 0
              · subst hd0; exact .inl ⟨rfl, ((Pl.sk_last HG.out hcl).1 hsr).symm⟩
              · exact .inr ⟨by omega, (Pl.sk_close HG.out hcl (by omega)).1 hsr⟩
            rcases hcl with rfl | rfl
            all_goals
              go_wp2_with fail
              go_quiet (fail)
              go_wp2_with fail
              go_roundg (n + 1 - (q + 1))
              case measure => go_light; omega
              case rel =>
                go_light
                exact ⟨q + 1, d', by go_num, rfl, by omega, by omega, (hcr.drewN _).set _ _ (by omega), HS.out, (below_drewN' hbr _).setCell (p := ⟨C, 1, none⟩) (Nat.le_refl _) _, by simpa using hsz⟩
          · have h125 : x ≠ 125 := fun h => hcl (.inl h)
            have h93 : x ≠ 93 := fun h => hcl (.inr h)
            have e125 : (x == 125) = false := by simp [h125]
            have e93 : (x == 93) = false := by simp [h93]
            have HS := (Pl.sk_other HG.out h34 h123 h91 h125 h93).1 hsr
            clear hcl
            go_wp2_with fail
            go_quiet (fail)
            go_wp2_with fail
            go_roundg (n + 1 - (q + 1))
            case measure => go_light; omega
            case rel =>
              go_light
              exact ⟨q + 1, d, rfl, rfl, by omega, by omega, (hcr.drewN _).set _ _ (by omega), .inr ⟨hd, HS⟩, (below_drewN' hbr _).setCell (p := ⟨C, 1, none⟩) (Nat.le_refl _) _, by simpa using hsz⟩
end Go.Proofs.Qxb6602166a
