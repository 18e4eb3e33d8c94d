/-
  The plain side of 'reading a whole container': an automaton over a list of bytes, strings, white space, values, items. No Go here.
-/
namespace Go.Proofs.Qxb6602274a.Pl

/-- One byte: 'none': the container is closed; else the new depth and the new mode. m: 0 outside a string, 1 inside one, 2 inside one behind a backslash. -/
def stp (c : Int) (d m : Nat) : Option (Nat × Nat) :=
  if m = 0 then
    if c = 34 then some (d, 1)
    else if c = 123 ∨ c = 91 then some (d + 1, 0)
    else if c = 125 ∨ c = 93 then (if d ≤ 1 then none else some (d - 1, 0))
    else some (d, 0)
  else if m = 1 then
    if c = 34 then some (d, 0)
    else if c = 92 then some (d, 2)
    else some (d, 1)
  else some (d, 1)

/-- How many bytes are passed till the container of depth d is closed. -/
def skipN : List Int → Nat → Nat → Option Nat
  | [], _, _ => none
  | c :: r, d, m => match stp c d m with
    | none => some 1
    | some x => (skipN r x.1 x.2).map (· + 1)

/-- From place p, at depth d, in mode m, the container is closed just ahead of place fin. -/
def Sk (t : List Int) (p d m fin : Nat) : Prop := ∃ k, skipN (t.drop p) d m = some k ∧ p + k = fin

theorem drop_cons {t : List Int} {p : Nat} {c : Int} (h : t[p]? = some c) : t.drop p = c :: t.drop (p + 1) := by
  obtain ⟨hp, rfl⟩ := List.getElem?_eq_some_iff.1 h
  exact List.drop_eq_getElem_cons hp

theorem Sk.lt {t : List Int} {p d m fin : Nat} (h : Sk t p d m fin) : p < t.length := by
  obtain ⟨k, hk, _⟩ := h
  by_cases hp : p < t.length
  · exact hp
  · rw [List.drop_of_length_le (by omega)] at hk
    simp [skipN] at hk

theorem sk_iff {t : List Int} {p d m fin p' d' m' : Nat} {c : Int} (hc : t[p]? = some c)
    (hs : skipN (c :: t.drop (p + 1)) d m = (skipN (t.drop (p + 1)) d' m').map (· + 1)) (hp : p' = p + 1) : Sk t p d m fin ↔ Sk t p' d' m' fin := by
  subst hp
  unfold Sk
  rw [drop_cons hc, hs]
  constructor
  · rintro ⟨k, hk, rfl⟩
    obtain ⟨k', hk', rfl⟩ := Option.map_eq_some_iff.1 hk
    exact ⟨k', hk', by omega⟩
  · rintro ⟨k, hk, rfl⟩
    exact ⟨k + 1, by rw [hk]; rfl, by omega⟩

theorem sk_quote {t : List Int} {p d fin : Nat} {c : Int} (hc : t[p]? = some c) (h : c = 34) : Sk t p d 0 fin ↔ Sk t (p + 1) d 1 fin :=
  sk_iff hc (by simp [skipN, stp, h]) rfl
theorem sk_open {t : List Int} {p d fin : Nat} {c : Int} (hc : t[p]? = some c) (h : c = 123 ∨ c = 91) : Sk t p d 0 fin ↔ Sk t (p + 1) (d + 1) 0 fin :=
  sk_iff hc (by rcases h with rfl | rfl <;> simp [skipN, stp]) rfl
theorem sk_close {t : List Int} {p d fin : Nat} {c : Int} (hc : t[p]? = some c) (h : c = 125 ∨ c = 93) (hd : 1 ≤ d) : Sk t p (d + 1) 0 fin ↔ Sk t (p + 1) d 0 fin :=
  sk_iff hc (by have : ¬ d = 0 := by omega
                rcases h with rfl | rfl <;> simp [skipN, stp, this]) rfl
theorem sk_last {t : List Int} {p fin : Nat} {c : Int} (hc : t[p]? = some c) (h : c = 125 ∨ c = 93) : Sk t p 1 0 fin ↔ fin = p + 1 := by
  unfold Sk
  rw [drop_cons hc]
  have e : skipN (c :: t.drop (p + 1)) 1 0 = some 1 := by rcases h with rfl | rfl <;> simp [skipN, stp]
  rw [e]
  constructor
  · rintro ⟨k, hk, rfl⟩; simp at hk; omega
  · rintro rfl; exact ⟨1, rfl, rfl⟩
theorem sk_other {t : List Int} {p d fin : Nat} {c : Int} (hc : t[p]? = some c) (h1 : c ≠ 34) (h2 : c ≠ 123) (h3 : c ≠ 91) (h4 : c ≠ 125) (h5 : c ≠ 93) : Sk t p d 0 fin ↔ Sk t (p + 1) d 0 fin :=
  sk_iff hc (by simp [skipN, stp, h1, h2, h3, h4, h5]) rfl
theorem sk_s_quote {t : List Int} {p d fin : Nat} {c : Int} (hc : t[p]? = some c) (h : c = 34) : Sk t p d 1 fin ↔ Sk t (p + 1) d 0 fin :=
  sk_iff hc (by simp [skipN, stp, h]) rfl
theorem sk_s_bs {t : List Int} {p d fin : Nat} {c : Int} (hc : t[p]? = some c) (h : c = 92) : Sk t p d 1 fin ↔ Sk t (p + 1) d 2 fin :=
  sk_iff hc (by simp [skipN, stp, h]) rfl
theorem sk_s_other {t : List Int} {p d fin : Nat} {c : Int} (hc : t[p]? = some c) (h1 : c ≠ 34) (h2 : c ≠ 92) : Sk t p d 1 fin ↔ Sk t (p + 1) d 1 fin :=
  sk_iff hc (by simp [skipN, stp, h1, h2]) rfl
theorem sk_e {t : List Int} {p d fin : Nat} {c : Int} (hc : t[p]? = some c) : Sk t p d 2 fin ↔ Sk t (p + 1) d 1 fin :=
  sk_iff hc (by simp [skipN, stp]) rfl

/-- What holds behind (p, m) holds behind (p0, m0): the automaton comes from the second to the first. -/
def Reach (t : List Int) (m0 p0 m p : Nat) : Prop := ∀ d fin, 1 ≤ d → Sk t p d m fin → Sk t p0 d m0 fin

theorem Reach.refl (t : List Int) (m p : Nat) : Reach t m p m p := fun _ _ _ h => h
theorem Reach.trans {t : List Int} {m0 p0 m1 p1 m2 p2 : Nat} (h : Reach t m0 p0 m1 p1) (k : Reach t m1 p1 m2 p2) : Reach t m0 p0 m2 p2 := fun d fin hd s => h d fin hd (k d fin hd s)

/-- The container that was open ahead of p is closed just ahead of q. -/
def Closed (t : List Int) (p q : Nat) : Prop := Sk t p 1 0 q ∧ ∀ d fin, 1 ≤ d → Sk t q d 0 fin → Sk t p (d + 1) 0 fin

theorem closed_here {t : List Int} {p : Nat} {c : Int} (hc : t[p]? = some c) (h : c = 125 ∨ c = 93) : Closed t p (p + 1) :=
  ⟨(sk_last hc h).2 rfl, fun _ _ hd s => (sk_close hc h hd).2 s⟩
theorem closed_reach {t : List Int} {p0 p q : Nat} (hr : Reach t 0 p0 0 p) (h : Closed t p q) : Closed t p0 q :=
  ⟨hr _ _ (Nat.le_refl _) h.1, fun d fin hd s => hr _ _ (by omega) (h.2 d fin hd s)⟩
theorem reach_open {t : List Int} {p q : Nat} {c : Int} (hc : t[p]? = some c) (h : c = 123 ∨ c = 91) (hq : Closed t (p + 1) q) : Reach t 0 p 0 q :=
  fun d fin hd s => (sk_open hc h).2 (hq.2 d fin hd s)
theorem reach_quote {t : List Int} {p q : Nat} {c : Int} (hc : t[p]? = some c) (h : c = 34) (hq : Reach t 1 (p + 1) 0 q) : Reach t 0 p 0 q :=
  fun d fin hd s => (sk_quote hc h).2 (hq d fin hd s)
theorem reach_other {t : List Int} {p : Nat} {c : Int} (hc : t[p]? = some c) (h1 : c ≠ 34) (h2 : c ≠ 123) (h3 : c ≠ 91) (h4 : c ≠ 125) (h5 : c ≠ 93) : Reach t 0 p 0 (p + 1) :=
  fun _ _ _ s => (sk_other hc h1 h2 h3 h4 h5).2 s


/-! ### Strings -/
/-- How many bytes are passed till the string is closed. m: 1 inside it, 2 behind a backslash. -/
def strN : List Int → Nat → Option Nat
  | [], _ => none
  | c :: r, m => if m = 2 then (strN r 1).map (· + 1) else if c = 34 then some 1 else if c = 92 then (strN r 2).map (· + 1) else (strN r 1).map (· + 1)

/-- From place p, in mode m, the string is closed just ahead of place q. -/
def SkS (t : List Int) (p m q : Nat) : Prop := ∃ k, strN (t.drop p) m = some k ∧ p + k = q

theorem strN_le (l : List Int) : ∀ m k, strN l m = some k → 0 < k ∧ k ≤ l.length := by
  induction l with
  | nil => intro m k h; simp [strN] at h
  | cons c l ih =>
    intro m k h
    have aux : ∀ m', (strN l m').map (· + 1) = some k → 0 < k ∧ k ≤ (c :: l).length := by
      intro m' h
      obtain ⟨k', hk', rfl⟩ := Option.map_eq_some_iff.1 h
      have := ih _ _ hk'
      simp; omega
    simp only [strN] at h
    split at h
    · exact aux _ h
    · split at h
      · simp at h; subst h; simp
      · split at h
        · exact aux _ h
        · exact aux _ h

theorem SkS.lt {t : List Int} {p m q : Nat} (h : SkS t p m q) : p < q ∧ q ≤ t.length := by
  obtain ⟨k, hk, rfl⟩ := h
  have := strN_le _ _ _ hk
  simp at this
  omega

theorem sks_iff {t : List Int} {p m q m' : Nat} {c : Int} (hc : t[p]? = some c) (hs : strN (c :: t.drop (p + 1)) m = (strN (t.drop (p + 1)) m').map (· + 1)) : SkS t p m q ↔ SkS t (p + 1) m' q := by
  unfold SkS
  rw [drop_cons hc, hs]
  constructor
  · rintro ⟨k, hk, rfl⟩
    obtain ⟨k', hk', rfl⟩ := Option.map_eq_some_iff.1 hk
    exact ⟨k', hk', by omega⟩
  · rintro ⟨k, hk, rfl⟩
    exact ⟨k + 1, by rw [hk]; rfl, by omega⟩
theorem sks_quote {t : List Int} {p q : Nat} {c : Int} (hc : t[p]? = some c) (h : c = 34) : SkS t p 1 q ↔ q = p + 1 := by
  unfold SkS
  rw [drop_cons hc]
  have e : strN (c :: t.drop (p + 1)) 1 = some 1 := by simp [strN, h]
  rw [e]
  constructor
  · rintro ⟨k, hk, rfl⟩; simp at hk; omega
  · rintro rfl; exact ⟨1, rfl, rfl⟩
theorem sks_bs {t : List Int} {p q : Nat} {c : Int} (hc : t[p]? = some c) (h : c = 92) : SkS t p 1 q ↔ SkS t (p + 1) 2 q := sks_iff hc (by simp [strN, h])
theorem sks_other {t : List Int} {p q : Nat} {c : Int} (hc : t[p]? = some c) (h1 : c ≠ 34) (h2 : c ≠ 92) : SkS t p 1 q ↔ SkS t (p + 1) 1 q := sks_iff hc (by simp [strN, h1, h2])
theorem sks_e {t : List Int} {p q : Nat} {c : Int} (hc : t[p]? = some c) : SkS t p 2 q ↔ SkS t (p + 1) 1 q := sks_iff hc (by simp [strN])

theorem skip_str (l : List Int) : ∀ d m, (m = 1 ∨ m = 2) → skipN l d m = (strN l m).bind (fun k => (skipN (l.drop k) d 0).map (· + k)) := by
  induction l with
  | nil => intro d m _; rfl
  | cons c l ih =>
    intro d m hm
    have aux : ∀ m', (m' = 1 ∨ m' = 2) → (skipN l d m').map (· + 1) = ((strN l m').map (· + 1)).bind (fun k => (skipN ((c :: l).drop k) d 0).map (· + k)) := by
      intro m' hm'
      rw [ih d m' hm']
      cases strN l m' with
      | none => rfl
      | some k =>
        simp only [Option.bind_some, Option.map_some, List.drop_succ_cons]
        cases skipN (l.drop k) d 0 with
        | none => rfl
        | some j => simp; omega
    rcases hm with rfl | rfl
    · by_cases h1 : c = 34
      · simp [skipN, stp, strN, h1]
      · by_cases h2 : c = 92
        · have := aux 2 (.inr rfl); simpa [skipN, stp, strN, h2] using this
        · have := aux 1 (.inl rfl); simpa [skipN, stp, strN, h1, h2] using this
    · have := aux 1 (.inl rfl); simpa [skipN, stp, strN] using this

theorem sk_split {t : List Int} {p d fin : Nat} (h : Sk t p d 1 fin) : ∃ q, SkS t p 1 q ∧ Sk t q d 0 fin := by
  obtain ⟨k, hk, rfl⟩ := h
  rw [skip_str _ _ _ (.inl rfl)] at hk
  obtain ⟨j, hj, hk⟩ := Option.bind_eq_some_iff.1 hk
  obtain ⟨i, hi, rfl⟩ := Option.map_eq_some_iff.1 hk
  rw [List.drop_drop] at hi
  exact ⟨p + j, ⟨j, hj, rfl⟩, ⟨i, hi, by omega⟩⟩
theorem sk_join {t : List Int} {p q d fin : Nat} (h : SkS t p 1 q) (hq : Sk t q d 0 fin) : Sk t p d 1 fin := by
  obtain ⟨j, hj, rfl⟩ := h
  obtain ⟨i, hi, rfl⟩ := hq
  refine ⟨i + j, ?_, by omega⟩
  rw [skip_str _ _ _ (.inl rfl), hj]
  simp only [Option.bind_some, List.drop_drop]
  rw [hi]; rfl
theorem reach_str {t : List Int} {p q : Nat} (hc : t[p]? = some 34) (h : SkS t (p + 1) 1 q) : Reach t 0 p 0 q :=
  fun _ _ _ s => (sk_quote hc rfl).2 (sk_join h s)

/-! ### The same, from a later place on -/
theorem sk_shift {t : List Int} {o p d m fin : Nat} : Sk (t.drop o) p d m fin ↔ Sk t (o + p) d m (o + fin) := by
  unfold Sk
  rw [List.drop_drop]
  constructor
  · rintro ⟨k, hk, rfl⟩; exact ⟨k, hk, by omega⟩
  · rintro ⟨k, hk, h⟩; exact ⟨k, hk, by omega⟩
theorem sks_shift {t : List Int} {o p m q : Nat} : SkS (t.drop o) p m q ↔ SkS t (o + p) m (o + q) := by
  unfold SkS
  rw [List.drop_drop]
  constructor
  · rintro ⟨k, hk, rfl⟩; exact ⟨k, hk, by omega⟩
  · rintro ⟨k, hk, h⟩; exact ⟨k, hk, by omega⟩
theorem Sk.fin_le {t : List Int} {p d m fin : Nat} (h : Sk t p d m fin) : p < fin ∧ fin ≤ t.length := by
  have key : ∀ (l : List Int) (d m k : Nat), skipN l d m = some k → 0 < k ∧ k ≤ l.length := by
    intro l
    induction l with
    | nil => intro d m k h; simp [skipN] at h
    | cons c l ih =>
      intro d m k h
      simp only [skipN] at h
      cases hs : stp c d m with
      | none => rw [hs] at h; simp at h; subst h; simp
      | some x =>
        rw [hs] at h
        obtain ⟨k', hk', rfl⟩ := Option.map_eq_some_iff.1 h
        have := ih _ _ _ hk'
        simp; omega
  obtain ⟨k, hk, rfl⟩ := h
  have := key _ _ _ _ hk
  simp at this
  omega

/-! ### White space -/
def isW (c : Int) : Bool := c == 32 || c == 9 || c == 13 || c == 10
def delim (c : Int) : Bool := isW c || c == 44 || c == 93 || c == 125

/-- White space from q to q1, and no further. -/
structure Ws (t : List Int) (q q1 : Nat) : Prop where
  le : q ≤ q1
  all : ∀ i, q ≤ i → i < q1 → ∃ c, t[i]? = some c ∧ isW c = true
  stop : ∀ c, t[q1]? = some c → isW c = false

theorem Ws.unique {t : List Int} {q a b : Nat} (h : Ws t q a) (k : Ws t q b) : a = b := by
  rcases Nat.lt_trichotomy a b with hlt | h' | hlt
  · obtain ⟨c, hc, hw⟩ := k.all a h.le hlt
    rw [h.stop c hc] at hw; cases hw
  · exact h'
  · obtain ⟨c, hc, hw⟩ := h.all b k.le hlt
    rw [k.stop c hc] at hw; cases hw
theorem Ws.shift {t : List Int} {o q q1 : Nat} (h : Ws t (o + q) (o + q1)) : Ws (t.drop o) q q1 :=
  ⟨by have := h.le; omega, fun i h1 h2 => by rw [List.getElem?_drop]; exact h.all (o + i) (by omega) (by omega), fun c hc => h.stop c (by rw [List.getElem?_drop] at hc; exact hc)⟩

theorem isW_cases {c : Int} (h : isW c = true) : c = 32 ∨ c = 9 ∨ c = 13 ∨ c = 10 := by
  simp [isW] at h; omega

theorem reach_range {t : List Int} {q q1 : Nat} (hle : q ≤ q1) (h : ∀ i, q ≤ i → i < q1 → ∃ c, t[i]? = some c ∧ c ≠ 34 ∧ c ≠ 123 ∧ c ≠ 91 ∧ c ≠ 125 ∧ c ≠ 93) : Reach t 0 q 0 q1 := by
  obtain ⟨n, rfl⟩ : ∃ n, q1 = q + n := ⟨q1 - q, by omega⟩
  clear hle
  induction n with
  | zero => exact Reach.refl _ _ _
  | succ n ih =>
    obtain ⟨c, hc, h1, h2, h3, h4, h5⟩ := h (q + n) (by omega) (by omega)
    exact (ih (fun i a b => h i a (by omega))).trans (reach_other hc h1 h2 h3 h4 h5)
theorem reach_ws {t : List Int} {q q1 : Nat} (h : Ws t q q1) : Reach t 0 q 0 q1 :=
  reach_range h.le fun i a b => by
    obtain ⟨c, hc, hw⟩ := h.all i a b
    have := isW_cases hw
    exact ⟨c, hc, by omega, by omega, by omega, by omega, by omega⟩
theorem reach_one {t : List Int} {q : Nat} {c : Int} (hc : t[q]? = some c) (h : c = 44 ∨ c = 58) : Reach t 0 q 0 (q + 1) :=
  reach_other hc (by omega) (by omega) (by omega) (by omega) (by omega)

/-! ### Values -/
def kindOf (c : Int) : Nat := if c = 110 then 1 else if c = 116 ∨ c = 102 then 2 else if c = 34 then 3 else if c = 91 then 4 else if c = 123 then 5 else 6

/-- A value lies from p to e: a string, a container, or a scalar without a delimiter in it. -/
def Val (t : List Int) (p e : Nat) : Prop :=
  p < e ∧ e ≤ t.length ∧ ∃ c, t[p]? = some c ∧ delim c = false ∧ ((c = 34 ∧ SkS t (p + 1) 1 e) ∨ ((c = 91 ∨ c = 123) ∧ Sk t (p + 1) 1 0 e) ∨ (c ≠ 34 ∧ c ≠ 91 ∧ c ≠ 123 ∧ ∀ i, p < i → i < e → ∃ x, t[i]? = some x ∧ delim x = false))
/-- What stands at e may follow a value. -/
def Fol (t : List Int) (e : Nat) : Prop := ∃ c, t[e]? = some c ∧ delim c = true

theorem Val.shift {t : List Int} {o e : Nat} (h : Val t o e) : Val (t.drop o) 0 (e - o) := by
  obtain ⟨h1, h2, c, hc, hd, h3⟩ := h
  refine ⟨by omega, by simp; omega, c, by rw [List.getElem?_drop]; simpa using hc, hd, ?_⟩
  rcases h3 with ⟨e1, h3⟩ | ⟨e1, h3⟩ | ⟨e1, e2, e3, h3⟩
  · exact .inl ⟨e1, sks_shift.2 (by rw [show o + (e - o) = e by omega]; exact h3)⟩
  · exact .inr (.inl ⟨e1, sk_shift.2 (by rw [show o + (e - o) = e by omega]; exact h3)⟩)
  · exact .inr (.inr ⟨e1, e2, e3, fun i a b => by rw [List.getElem?_drop]; exact h3 (o + i) (by omega) (by omega)⟩)
theorem Fol.shift {t : List Int} {o e : Nat} (h : Fol t e) (ho : o ≤ e) : Fol (t.drop o) (e - o) := by
  obtain ⟨c, hc, hd⟩ := h
  exact ⟨c, by rw [List.getElem?_drop, show o + (e - o) = e by omega]; exact hc, hd⟩

/-! ### Items -/
structure Span where
  na : Nat
  nb : Nat
  va : Nat
  vb : Nat
  kind : Nat

/-- From q, past white space and at most one comma, an item begins at i. -/
def Start (t : List Int) (q i : Nat) : Prop := Ws t q i ∨ ∃ j, Ws t q j ∧ t[j]? = some 44 ∧ Ws t (j + 1) i

/-- The item (the member) that begins at i. -/
def Item (t : List Int) (obj : Bool) (i : Nat) (s : Span) : Prop :=
  (if obj = true then s.na = i ∧ t[i]? = some 34 ∧ SkS t (i + 1) 1 s.nb ∧ ∃ j, Ws t s.nb j ∧ t[j]? = some 58 ∧ Ws t (j + 1) s.va else s.na = 0 ∧ s.nb = 0 ∧ s.va = i) ∧
  Val t s.va s.vb ∧ (∃ x, t[s.va]? = some x ∧ s.kind = kindOf x) ∧ Fol t s.vb

/-- From q on: the items ss, and then the closing bracket at c. -/
def Items (t : List Int) (obj : Bool) : List Span → Nat → Nat → Prop
  | [], q, c => Ws t q c ∧ ∃ x, t[c]? = some x ∧ (x = 93 ∨ x = 125)
  | s :: ss, q, c => (∃ i, Start t q i ∧ Item t obj i s) ∧ Items t obj ss s.vb c

/-- The state of the container's reader at an item's place: what is read so far, and how it goes on. -/
def Pre (t : List Int) (obj : Bool) (p : Nat) (sp : List Span) (i : Nat) : Prop :=
  Reach t 0 (p + 1) 0 i ∧ ∃ q, Start t q i ∧ ∀ ss c, Items t obj ss q c → Items t obj (sp ++ ss) (p + 1) c

theorem pre_start {t : List Int} {obj : Bool} {p i : Nat} (h : Ws t (p + 1) i) : Pre t obj p [] i :=
  ⟨reach_ws h, p + 1, .inl h, fun _ _ h => h⟩

theorem fol_of {t : List Int} {e i : Nat} {x : Int} (hw : Ws t e i) (hx : t[i]? = some x) (h : x = 44 ∨ x = 93 ∨ x = 125) : Fol t e := by
  by_cases he : e = i
  · subst he; exact ⟨x, hx, by rcases h with rfl | rfl | rfl <;> rfl⟩
  · obtain ⟨c, hc, hcw⟩ := hw.all e (Nat.le_refl _) (by have := hw.le; omega)
    exact ⟨c, hc, by simp [delim, hcw]⟩

/-- What an item gives, but for what follows it. -/
def Item0 (t : List Int) (obj : Bool) (i : Nat) (s : Span) : Prop :=
  (if obj = true then s.na = i ∧ t[i]? = some 34 ∧ SkS t (i + 1) 1 s.nb ∧ ∃ j, Ws t s.nb j ∧ t[j]? = some 58 ∧ Ws t (j + 1) s.va else s.na = 0 ∧ s.nb = 0 ∧ s.va = i) ∧
  Val t s.va s.vb ∧ (∃ x, t[s.va]? = some x ∧ s.kind = kindOf x) ∧ Reach t 0 i 0 s.vb

theorem pre_more {t : List Int} {obj : Bool} {p i j i' : Nat} {sp : List Span} {s : Span} (h : Pre t obj p sp i) (hi : Item0 t obj i s) (hj : Ws t s.vb j) (hx : t[j]? = some 44) (hw : Ws t (j + 1) i') : Pre t obj p (sp ++ [s]) i' := by
  obtain ⟨hr, q, hq, hc⟩ := h
  obtain ⟨h1, h2, h3, h4⟩ := hi
  refine ⟨(((hr.trans h4).trans (reach_ws hj)).trans (reach_one hx (.inl rfl))).trans (reach_ws hw), s.vb, .inr ⟨j, hj, hx, hw⟩, fun ss c hss => ?_⟩
  rw [List.append_assoc]
  exact hc _ _ ⟨⟨i, hq, h1, h2, h3, fol_of hj hx (.inl rfl)⟩, hss⟩

/-- What a container's reader answers. -/
def Cont (t : List Int) (obj : Bool) (p : Nat) (sp : List Span) (c : Nat) : Prop := Items t obj sp (p + 1) c ∧ Closed t (p + 1) (c + 1)

theorem cont_done {t : List Int} {obj : Bool} {p i j : Nat} {sp : List Span} {s : Span} {x : Int} (h : Pre t obj p sp i) (hi : Item0 t obj i s) (hj : Ws t s.vb j) (hx : t[j]? = some x) (hc : x = 93 ∨ x = 125) : Cont t obj p (sp ++ [s]) j := by
  obtain ⟨hr, q, hq, hcc⟩ := h
  obtain ⟨h1, h2, h3, h4⟩ := hi
  refine ⟨hcc _ _ ⟨⟨i, hq, h1, h2, h3, fol_of hj hx (.inr hc)⟩, hj, x, hx, hc⟩, ?_⟩
  exact closed_reach ((hr.trans h4).trans (reach_ws hj)) (closed_here hx (by omega))

theorem cont_empty {t : List Int} {obj : Bool} {p j : Nat} {x : Int} (hj : Ws t (p + 1) j) (hx : t[j]? = some x) (hc : x = 93 ∨ x = 125) : Cont t obj p [] j :=
  ⟨⟨hj, x, hx, hc⟩, closed_reach (reach_ws hj) (closed_here hx (by omega))⟩

theorem reach_closed {t : List Int} {p q : Nat} {x : Int} (hx : t[p]? = some x) (h : x = 123 ∨ x = 91) (hc : Closed t (p + 1) q) : Reach t 0 p 0 q := reach_open hx h hc

/-! ### What the reader answers for a value -/
def VP (t : List Int) (p e kind : Nat) : Prop := Val t p e ∧ (∃ x, t[p]? = some x ∧ kind = kindOf x) ∧ Reach t 0 p 0 e

theorem vp_str {t : List Int} {p e : Nat} (hx : t[p]? = some 34) (h : SkS t (p + 1) 1 e) : VP t p e 3 :=
  ⟨⟨by have := h.lt; omega, h.lt.2, 34, hx, rfl, .inl ⟨rfl, h⟩⟩, ⟨34, hx, rfl⟩, reach_str hx h⟩
theorem vp_cont {t : List Int} {p e k : Nat} {x : Int} (hx : t[p]? = some x) (hk : (x = 91 ∧ k = 4) ∨ (x = 123 ∧ k = 5)) (h : Closed t (p + 1) e) : VP t p e k := by
  have hf := h.1.fin_le
  refine ⟨⟨by omega, hf.2, x, hx, by rcases hk with ⟨rfl, _⟩ | ⟨rfl, _⟩ <;> rfl, .inr (.inl ⟨by omega, h.1⟩)⟩, ⟨x, hx, by rcases hk with ⟨rfl, rfl⟩ | ⟨rfl, rfl⟩ <;> rfl⟩, reach_open hx (by omega) h⟩
/-- The bytes of a number or of a word. -/
def plainB (c : Int) : Bool := (decide (97 ≤ c) && decide (c ≤ 122)) || (decide (48 ≤ c) && decide (c ≤ 57)) || c == 45 || c == 43 || c == 46 || c == 69
theorem plain_not {c : Int} (h : plainB c = true) : delim c = false ∧ c ≠ 34 ∧ c ≠ 123 ∧ c ≠ 91 ∧ c ≠ 125 ∧ c ≠ 93 := by
  simp [plainB] at h
  refine ⟨?_, by omega, by omega, by omega, by omega, by omega⟩
  simp [delim, isW]; omega
theorem vp_plain {t : List Int} {p e k : Nat} {x : Int} (hpe : p < e) (he : e ≤ t.length) (h : ∀ i, p ≤ i → i < e → ∃ c, t[i]? = some c ∧ plainB c = true) (hx : t[p]? = some x) (hk : k = kindOf x) : VP t p e k := by
  obtain ⟨c, hc, hb⟩ := h p (Nat.le_refl _) hpe
  obtain rfl : c = x := by rw [hc] at hx; exact Option.some.inj hx
  have hp := plain_not hb
  refine ⟨⟨hpe, he, c, hc, hp.1, .inr (.inr ⟨hp.2.1, hp.2.2.2.1, hp.2.2.1, fun i a b => ?_⟩)⟩, ⟨c, hc, hk⟩, reach_range (by omega) fun i a b => ?_⟩
  · obtain ⟨y, hy, hyb⟩ := h i (by omega) b
    exact ⟨y, hy, (plain_not hyb).1⟩
  · obtain ⟨y, hy, hyb⟩ := h i a b
    exact ⟨y, hy, (plain_not hyb).2⟩

theorem item_arr {t : List Int} {i e k : Nat} (h : VP t i e k) : Item0 t false i ⟨0, 0, i, e, k⟩ := ⟨⟨rfl, rfl, rfl⟩, h.1, h.2.1, h.2.2⟩
theorem item_obj {t : List Int} {i nb j va e k : Nat} (hx : t[i]? = some 34) (hs : SkS t (i + 1) 1 nb) (hj : Ws t nb j) (hc : t[j]? = some 58) (hv : Ws t (j + 1) va) (h : VP t va e k) : Item0 t true i ⟨i, nb, va, e, k⟩ :=
  ⟨⟨rfl, hx, hs, j, hj, hc, hv⟩, h.1, h.2.1, ((((reach_str hx hs).trans (reach_ws hj)).trans (reach_one hc (.inr rfl))).trans (reach_ws hv)).trans h.2.2⟩

end Go.Proofs.Qxb6602274a.Pl
