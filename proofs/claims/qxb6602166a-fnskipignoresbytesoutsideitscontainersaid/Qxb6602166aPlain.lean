/-
  The plain side of 'Skip ignores what lies outside its container': an automaton over a list of bytes. No Go here.
-/
namespace Go.Proofs.Qxb6602166a.Pl

/-- One byte: 'none': the container is closed; else the new depth and the new mode. m: 0 outside a string, 1 inside one, 2 inside one behind a backslash. -/
def stp (c : Int) (d m : Nat) : Option (Nat × Nat) :=
  if m = 0 then
    if c = 34 then some (d, 1)
    else if c = 123 ∨ c = 91 then some (d + 1, 0)
    else if c = 125 ∨ c = 93 then (if d ≤ 1 then none else some (d - 1, 0))
    else some (d, 0)
  else if m = 1 then
    if c = 34 then some (d, 0)
    else if c = 92 then some (d, 2)
    else some (d, 1)
  else some (d, 1)

/-- How many bytes are passed till the container of depth d is closed. -/
def skipN : List Int → Nat → Nat → Option Nat
  | [], _, _ => none
  | c :: r, d, m => match stp c d m with
    | none => some 1
    | some x => (skipN r x.1 x.2).map (· + 1)

/-- From place p, at depth d, in mode m, the container is closed just ahead of place fin. -/
def Sk (t : List Int) (p d m fin : Nat) : Prop := ∃ k, skipN (t.drop p) d m = some k ∧ p + k = fin

theorem drop_cons {t : List Int} {p : Nat} {c : Int} (h : t[p]? = some c) : t.drop p = c :: t.drop (p + 1) := by
  obtain ⟨hp, rfl⟩ := List.getElem?_eq_some_iff.1 h
  exact List.drop_eq_getElem_cons hp

theorem Sk.lt {t : List Int} {p d m fin : Nat} (h : Sk t p d m fin) : p < t.length := by
  obtain ⟨k, hk, _⟩ := h
  by_cases hp : p < t.length
  · exact hp
  · rw [List.drop_of_length_le (by omega)] at hk
    simp [skipN] at hk

theorem sk_iff {t : List Int} {p d m fin p' d' m' : Nat} {c : Int} (hc : t[p]? = some c)
    (hs : skipN (c :: t.drop (p + 1)) d m = (skipN (t.drop (p + 1)) d' m').map (· + 1)) (hp : p' = p + 1) : Sk t p d m fin ↔ Sk t p' d' m' fin := by
  subst hp
  unfold Sk
  rw [drop_cons hc, hs]
  constructor
  · rintro ⟨k, hk, rfl⟩
    obtain ⟨k', hk', rfl⟩ := Option.map_eq_some_iff.1 hk
    exact ⟨k', hk', by omega⟩
  · rintro ⟨k, hk, rfl⟩
    exact ⟨k + 1, by rw [hk]; rfl, by omega⟩

theorem sk_quote {t : List Int} {p d fin : Nat} {c : Int} (hc : t[p]? = some c) (h : c = 34) : Sk t p d 0 fin ↔ Sk t (p + 1) d 1 fin :=
  sk_iff hc (by simp [skipN, stp, h]) rfl
theorem sk_open {t : List Int} {p d fin : Nat} {c : Int} (hc : t[p]? = some c) (h : c = 123 ∨ c = 91) : Sk t p d 0 fin ↔ Sk t (p + 1) (d + 1) 0 fin :=
  sk_iff hc (by rcases h with rfl | rfl <;> simp [skipN, stp]) rfl
theorem sk_close {t : List Int} {p d fin : Nat} {c : Int} (hc : t[p]? = some c) (h : c = 125 ∨ c = 93) (hd : 1 ≤ d) : Sk t p (d + 1) 0 fin ↔ Sk t (p + 1) d 0 fin :=
  sk_iff hc (by have : ¬ d = 0 := by omega
                rcases h with rfl | rfl <;> simp [skipN, stp, this]) rfl
theorem sk_last {t : List Int} {p fin : Nat} {c : Int} (hc : t[p]? = some c) (h : c = 125 ∨ c = 93) : Sk t p 1 0 fin ↔ fin = p + 1 := by
  unfold Sk
  rw [drop_cons hc]
  have e : skipN (c :: t.drop (p + 1)) 1 0 = some 1 := by rcases h with rfl | rfl <;> simp [skipN, stp]
  rw [e]
  constructor
  · rintro ⟨k, hk, rfl⟩; simp at hk; omega
  · rintro rfl; exact ⟨1, rfl, rfl⟩
theorem sk_other {t : List Int} {p d fin : Nat} {c : Int} (hc : t[p]? = some c) (h1 : c ≠ 34) (h2 : c ≠ 123) (h3 : c ≠ 91) (h4 : c ≠ 125) (h5 : c ≠ 93) : Sk t p d 0 fin ↔ Sk t (p + 1) d 0 fin :=
  sk_iff hc (by simp [skipN, stp, h1, h2, h3, h4, h5]) rfl
theorem sk_s_quote {t : List Int} {p d fin : Nat} {c : Int} (hc : t[p]? = some c) (h : c = 34) : Sk t p d 1 fin ↔ Sk t (p + 1) d 0 fin :=
  sk_iff hc (by simp [skipN, stp, h]) rfl
theorem sk_s_bs {t : List Int} {p d fin : Nat} {c : Int} (hc : t[p]? = some c) (h : c = 92) : Sk t p d 1 fin ↔ Sk t (p + 1) d 2 fin :=
  sk_iff hc (by simp [skipN, stp, h]) rfl
theorem sk_s_other {t : List Int} {p d fin : Nat} {c : Int} (hc : t[p]? = some c) (h1 : c ≠ 34) (h2 : c ≠ 92) : Sk t p d 1 fin ↔ Sk t (p + 1) d 1 fin :=
  sk_iff hc (by simp [skipN, stp, h1, h2]) rfl
theorem sk_e {t : List Int} {p d fin : Nat} {c : Int} (hc : t[p]? = some c) : Sk t p d 2 fin ↔ Sk t (p + 1) d 1 fin :=
  sk_iff hc (by simp [skipN, stp]) rfl

/-- What follows does not count. -/
theorem skipN_append (l : List Int) : ∀ (d m k : Nat) (r : List Int), skipN l d m = some k → skipN (l ++ r) d m = some k := by
  induction l with
  | nil => intro d m k r h; simp [skipN] at h
  | cons c l ih =>
    intro d m k r h
    simp only [List.cons_append, skipN] at h ⊢
    cases hs : stp c d m with
    | none => rw [hs] at h; exact h
    | some x =>
      rw [hs] at h
      obtain ⟨k', hk', rfl⟩ := Option.map_eq_some_iff.1 h
      show (skipN (l ++ r) x.1 x.2).map (· + 1) = _
      rw [ih _ _ k' r hk']; rfl

/-- The law: the same container, inside a greater text. -/
theorem sk_inside {pre t post : List Int} {p d m fin : Nat} (h : Sk t p d m fin) : Sk (pre ++ t ++ post) (pre.length + p) d m (pre.length + fin) := by
  have hlt := h.lt
  obtain ⟨k, hk, rfl⟩ := h
  refine ⟨k, ?_, by omega⟩
  have e : (pre ++ t ++ post).drop (pre.length + p) = t.drop p ++ post := by
    rw [List.append_assoc, List.drop_append, List.drop_append, List.drop_of_length_le (by omega), Nat.add_sub_cancel_left, show p - t.length = 0 by omega]
    simp
  rw [e]
  exact skipN_append _ _ _ _ _ hk

/-- What holds behind (p, m) holds behind (p0, m0): the automaton comes from the second to the first. -/
def Reach (t : List Int) (m0 p0 m p : Nat) : Prop := ∀ d fin, 1 ≤ d → Sk t p d m fin → Sk t p0 d m0 fin

theorem Reach.refl (t : List Int) (m p : Nat) : Reach t m p m p := fun _ _ _ h => h
theorem Reach.trans {t : List Int} {m0 p0 m1 p1 m2 p2 : Nat} (h : Reach t m0 p0 m1 p1) (k : Reach t m1 p1 m2 p2) : Reach t m0 p0 m2 p2 := fun d fin hd s => h d fin hd (k d fin hd s)

/-- How many backslashes stand in a row just ahead of j, back to p + 1. -/
def run (t : List Int) (p : Nat) : Nat → Nat
  | 0 => 0
  | j + 1 => if p < j ∧ t[j]? = some 92 then run t p j + 1 else 0

theorem run_le (t : List Int) (p j : Nat) : run t p j ≤ j := by
  induction j with
  | zero => simp [run]
  | succ j ih => simp only [run]; split <;> omega

/-- The state of the string's scan: where the automaton stands ahead of j. -/
def Str (t : List Int) (p j : Nat) : Prop := ∃ m, Reach t 1 (p + 1) m j ∧ ((m = 1 ∧ run t p j % 2 = 0) ∨ (m = 2 ∧ run t p j % 2 = 1))

theorem str_start (t : List Int) (p : Nat) : Str t p (p + 1) := ⟨1, Reach.refl _ _ _, .inl ⟨rfl, by simp [run]⟩⟩

theorem str_bs {t : List Int} {p j : Nat} (h : Str t p j) (hp : p < j) (hc : t[j]? = some 92) : Str t p (j + 1) := by
  obtain ⟨m, hr, hm⟩ := h
  have e : run t p (j + 1) = run t p j + 1 := by simp [run, hp, hc]
  rcases hm with ⟨rfl, h0⟩ | ⟨rfl, h1⟩
  · exact ⟨2, hr.trans fun d fin _ s => (sk_s_bs hc rfl).2 s, .inr ⟨rfl, by omega⟩⟩
  · exact ⟨1, hr.trans fun d fin _ s => (sk_e hc).2 s, .inl ⟨rfl, by omega⟩⟩

theorem str_other {t : List Int} {p j : Nat} {c : Int} (h : Str t p j) (hc : t[j]? = some c) (h1 : c ≠ 92) (h2 : c ≠ 34) : Str t p (j + 1) := by
  obtain ⟨m, hr, hm⟩ := h
  have e : run t p (j + 1) = 0 := by simp [run, hc, h1]
  rcases hm with ⟨rfl, h0⟩ | ⟨rfl, _⟩
  · exact ⟨1, hr.trans fun d fin _ s => (sk_s_other hc h2 h1).2 s, .inl ⟨rfl, by omega⟩⟩
  · exact ⟨1, hr.trans fun d fin _ s => (sk_e hc).2 s, .inl ⟨rfl, by omega⟩⟩

theorem str_odd {t : List Int} {p j : Nat} (h : Str t p j) (hc : t[j]? = some 34) (ho : run t p j % 2 ≠ 0) : Str t p (j + 1) := by
  obtain ⟨m, hr, hm⟩ := h
  have e : run t p (j + 1) = 0 := by simp [run, hc]
  rcases hm with ⟨rfl, h0⟩ | ⟨rfl, _⟩
  · omega
  · exact ⟨1, hr.trans fun d fin _ s => (sk_e hc).2 s, .inl ⟨rfl, by omega⟩⟩

theorem str_even {t : List Int} {p j : Nat} (h : Str t p j) (hc : t[j]? = some 34) (ho : run t p j % 2 = 0) : Reach t 1 (p + 1) 0 (j + 1) := by
  obtain ⟨m, hr, hm⟩ := h
  rcases hm with ⟨rfl, _⟩ | ⟨rfl, h1⟩
  · exact hr.trans fun d fin _ s => (sk_s_quote hc rfl).2 s
  · omega

/-- What mClose answers with 'true': the container that was open ahead of p is closed just ahead of q. -/
def Closed (t : List Int) (p q : Nat) : Prop := Sk t p 1 0 q ∧ ∀ d fin, 1 ≤ d → Sk t q d 0 fin → Sk t p (d + 1) 0 fin

theorem closed_here {t : List Int} {p : Nat} {c : Int} (hc : t[p]? = some c) (h : c = 125 ∨ c = 93) : Closed t p (p + 1) :=
  ⟨(sk_last hc h).2 rfl, fun _ _ hd s => (sk_close hc h hd).2 s⟩
theorem closed_reach {t : List Int} {p0 p q : Nat} (hr : Reach t 0 p0 0 p) (h : Closed t p q) : Closed t p0 q :=
  ⟨hr _ _ (Nat.le_refl _) h.1, fun d fin hd s => hr _ _ (by omega) (h.2 d fin hd s)⟩
theorem reach_open {t : List Int} {p q : Nat} {c : Int} (hc : t[p]? = some c) (h : c = 123 ∨ c = 91) (hq : Closed t (p + 1) q) : Reach t 0 p 0 q :=
  fun d fin hd s => (sk_open hc h).2 (hq.2 d fin hd s)
theorem reach_quote {t : List Int} {p q : Nat} {c : Int} (hc : t[p]? = some c) (h : c = 34) (hq : Reach t 1 (p + 1) 0 q) : Reach t 0 p 0 q :=
  fun d fin hd s => (sk_quote hc h).2 (hq d fin hd s)
theorem reach_other {t : List Int} {p : Nat} {c : Int} (hc : t[p]? = some c) (h1 : c ≠ 34) (h2 : c ≠ 123) (h3 : c ≠ 91) (h4 : c ≠ 125) (h5 : c ≠ 93) : Reach t 0 p 0 (p + 1) :=
  fun _ _ _ s => (sk_other hc h1 h2 h3 h4 h5).2 s

end Go.Proofs.Qxb6602166a.Pl
