/-
  The plain side of the two laws on TableCells: the occupied cells of a table, row by row. No Go here.
-/
namespace Go.Proofs.Qxb6602192a.Pl

structure Cel where
  r : Nat
  c : Nat
  h : Int
  l : Int

structure Tab where
  L : Nat → Nat
  ok : Nat → Nat → Bool
  hi : Nat → Nat → Int
  lo : Nat → Nat → Int

def cel (T : Tab) (r c : Nat) : Cel := ⟨r, c, T.hi r c, T.lo r c⟩

def one (T : Tab) (r c : Nat) : List Cel := if T.ok r c = true then [cel T r c] else []

/-- The occupied cells of row r ahead of column c. -/
def rowTo (T : Tab) (r : Nat) : Nat → List Cel
  | 0 => []
  | c + 1 => rowTo T r c ++ one T r c

/-- The occupied cells ahead of row r. -/
def tabTo (T : Tab) : Nat → List Cel
  | 0 => []
  | r + 1 => tabTo T r ++ rowTo T r (T.L r)

def sumTo (L : Nat → Nat) : Nat → Nat
  | 0 => 0
  | r + 1 => sumTo L r + L r

theorem one_len (T : Tab) (r c : Nat) : (one T r c).length ≤ 1 := by unfold one; split <;> simp
theorem rowTo_len (T : Tab) (r c : Nat) : (rowTo T r c).length ≤ c := by
  induction c with
  | zero => simp [rowTo]
  | succ c ih => have := one_len T r c; simp only [rowTo, List.length_append]; omega
theorem tabTo_len (T : Tab) (G : Nat) : (tabTo T G).length ≤ sumTo T.L G := by
  induction G with
  | zero => simp [tabTo]
  | succ r ih => have := rowTo_len T r (T.L r); simp only [tabTo, sumTo, List.length_append]; omega
theorem sumTo_mono (L : Nat → Nat) {a b : Nat} (h : a ≤ b) : sumTo L a ≤ sumTo L b := by
  induction b with
  | zero => obtain rfl : a = 0 := by omega
            exact Nat.le_refl _
  | succ b ih =>
    by_cases e : a = b + 1
    · subst e; exact Nat.le_refl _
    · have := ih (by omega); simp only [sumTo]; omega
theorem sumTo_congr (L L' : Nat → Nat) (G : Nat) (h : ∀ r, r < G → L' r = L r) : sumTo L' G = sumTo L G := by
  induction G with
  | zero => rfl
  | succ r ih => simp only [sumTo, ih (fun j hj => h j (by omega)), h r (by omega)]
/-- What the walk has gathered at row r, column c. -/
theorem part_len (T : Tab) {G r c : Nat} (hr : r < G) (hc : c ≤ T.L r) : (tabTo T r ++ rowTo T r c).length ≤ sumTo T.L G := by
  have h1 := tabTo_len T r
  have h2 := rowTo_len T r c
  have h3 := sumTo_mono T.L (show r + 1 ≤ G by omega)
  simp only [sumTo] at h3
  simp only [List.length_append]; omega

/-- What is said of each cell. -/
def Good (T : Tab) (x : Cel) : Prop := x.c < T.L x.r ∧ T.ok x.r x.c = true ∧ x.h = T.hi x.r x.c ∧ x.l = T.lo x.r x.c

theorem one_mem {T : Tab} {r c : Nat} {x : Cel} (h : x ∈ one T r c) : x = cel T r c ∧ T.ok r c = true := by
  unfold one at h
  split at h
  · exact ⟨by simpa using h, by assumption⟩
  · simp at h

theorem rowTo_mem {T : Tab} {r c : Nat} {x : Cel} (h : x ∈ rowTo T r c) : x.r = r ∧ x.c < c ∧ T.ok x.r x.c = true ∧ x.h = T.hi x.r x.c ∧ x.l = T.lo x.r x.c := by
  induction c with
  | zero => simp [rowTo] at h
  | succ c ih =>
    simp only [rowTo, List.mem_append] at h
    rcases h with h | h
    · obtain ⟨h1, h2, h3⟩ := ih h; exact ⟨h1, by omega, h3⟩
    · obtain ⟨rfl, h2⟩ := one_mem h; exact ⟨rfl, by simp [cel], h2, rfl, rfl⟩

theorem tabTo_mem {T : Tab} {G : Nat} {x : Cel} (h : x ∈ tabTo T G) : x.r < G ∧ Good T x := by
  induction G with
  | zero => simp [tabTo] at h
  | succ G ih =>
    simp only [tabTo, List.mem_append] at h
    rcases h with h | h
    · obtain ⟨h1, h2⟩ := ih h; exact ⟨by omega, h2⟩
    · obtain ⟨h1, h2, h3, h4, h5⟩ := rowTo_mem h
      exact ⟨by omega, ⟨by rw [h1]; exact h2, h3, h4, h5⟩⟩

/-- The order of the cells. -/
def Lt (x y : Cel) : Prop := x.r < y.r ∨ (x.r = y.r ∧ x.c < y.c)

theorem rowTo_sorted (T : Tab) (r c : Nat) : (rowTo T r c).Pairwise Lt := by
  induction c with
  | zero => simp [rowTo]
  | succ c ih =>
    simp only [rowTo]
    refine List.pairwise_append.2 ⟨ih, ?_, ?_⟩
    · unfold one; split <;> simp
    · intro x hx y hy
      obtain ⟨h1, h2, _⟩ := rowTo_mem hx
      obtain ⟨rfl, _⟩ := one_mem hy
      exact .inr ⟨h1, h2⟩

theorem tabTo_sorted (T : Tab) (G : Nat) : (tabTo T G).Pairwise Lt := by
  induction G with
  | zero => simp [tabTo]
  | succ G ih =>
    simp only [tabTo]
    refine List.pairwise_append.2 ⟨ih, rowTo_sorted _ _ _, ?_⟩
    intro x hx y hy
    have h1 := (tabTo_mem hx).1
    have h2 := (rowTo_mem hy).1
    exact .inl (by omega)

theorem tab_lt {T : Tab} {G k : Nat} (h : k + 1 < (tabTo T G).length) : Lt (tabTo T G)[k] (tabTo T G)[k + 1] :=
  List.pairwise_iff_getElem.1 (tabTo_sorted T G) k (k + 1) (by omega) h (by omega)

/-! ### One slot set -/
def upd (T : Tab) (R C : Nat) (h l : Int) : Tab :=
  { L := T.L, ok := fun r c => if r = R ∧ c = C then true else T.ok r c, hi := fun r c => if r = R ∧ c = C then h else T.hi r c, lo := fun r c => if r = R ∧ c = C then l else T.lo r c }

theorem one_upd {T : Tab} {R C r c : Nat} {h l : Int} (hne : ¬ (r = R ∧ c = C)) : one (upd T R C h l) r c = one T r c := by
  simp [one, upd, cel, hne]
theorem one_upd_at (T : Tab) (R C : Nat) (h l : Int) : one (upd T R C h l) R C = [⟨R, C, h, l⟩] := by
  simp [one, upd, cel]
theorem rowTo_upd {T : Tab} {R C r c : Nat} {h l : Int} (hne : r = R → c ≤ C) : rowTo (upd T R C h l) r c = rowTo T r c := by
  induction c with
  | zero => rfl
  | succ c ih => simp only [rowTo]; rw [ih (fun e => by have := hne e; omega), one_upd (fun e => by have := hne e.1; omega)]
theorem tabTo_upd {T : Tab} {R C r : Nat} {h l : Int} (hr : r ≤ R) : tabTo (upd T R C h l) r = tabTo T r := by
  induction r with
  | zero => rfl
  | succ r ih => simp only [tabTo]; rw [ih (by omega), rowTo_upd (fun e => by omega)]; rfl

theorem row_split (T : Tab) (R C : Nat) (h l : Int) (n : Nat) (hn : C < n) : ∃ S, rowTo T R n = rowTo T R C ++ one T R C ++ S ∧ rowTo (upd T R C h l) R n = rowTo T R C ++ [⟨R, C, h, l⟩] ++ S ∧ ∀ x ∈ S, x.r = R ∧ C < x.c := by
  induction n with
  | zero => omega
  | succ n ih =>
    by_cases e : C = n
    · subst e
      exact ⟨[], by simp [rowTo], by simp only [rowTo]; rw [rowTo_upd (fun _ => Nat.le_refl _), one_upd_at]; simp, by simp⟩
    · obtain ⟨S, h1, h2, h3⟩ := ih (by omega)
      refine ⟨S ++ one T R n, by simp only [rowTo, h1, List.append_assoc], by simp only [rowTo]; rw [h2, one_upd (fun e' => e e'.2.symm)]; simp only [List.append_assoc], ?_⟩
      intro x hx
      rcases List.mem_append.1 hx with hx | hx
      · exact h3 x hx
      · obtain ⟨rfl, _⟩ := one_mem hx; exact ⟨rfl, by simp only [cel]; omega⟩

theorem tab_split (T : Tab) (R C : Nat) (h l : Int) (n : Nat) (hn : R < n) :
    ∃ S, tabTo T n = tabTo T R ++ rowTo T R (T.L R) ++ S ∧ tabTo (upd T R C h l) n = tabTo T R ++ rowTo (upd T R C h l) R (T.L R) ++ S ∧ ∀ x ∈ S, R < x.r := by
  induction n with
  | zero => omega
  | succ n ih =>
    by_cases e : R = n
    · subst e
      exact ⟨[], by simp [tabTo], by simp only [tabTo]; rw [tabTo_upd (Nat.le_refl _)]; simp [upd], by simp⟩
    · obtain ⟨S, h1, h2, h3⟩ := ih (by omega)
      refine ⟨S ++ rowTo T n (T.L n), by simp only [tabTo, h1, List.append_assoc], ?_, ?_⟩
      · simp only [tabTo]; rw [h2, rowTo_upd (fun e' => absurd e'.symm e)]; simp only [List.append_assoc]; rfl
      intro x hx
      rcases List.mem_append.1 hx with hx | hx
      · exact h3 x hx
      · have := (rowTo_mem hx).1; omega

def Ge (x X : Cel) : Prop := X.r < x.r ∨ (x.r = X.r ∧ X.c ≤ x.c)
def Same (x X : Cel) : Prop := x.r = X.r ∧ x.c = X.c

theorem one_slot (T : Tab) (R C : Nat) (h l : Int) (G : Nat) (hR : R < G) (hC : C < T.L R) :
    ∃ B1 M B2, tabTo T G = B1 ++ M ++ B2 ∧ tabTo (upd T R C h l) G = B1 ++ [⟨R, C, h, l⟩] ++ B2 ∧ (∀ x ∈ B1, Lt x ⟨R, C, h, l⟩) ∧ (M = [] ∨ ∃ m, M = [m] ∧ Same m ⟨R, C, h, l⟩) ∧ (∀ x ∈ B2, Lt ⟨R, C, h, l⟩ x) := by
  obtain ⟨S, h1, h2, h3⟩ := row_split T R C h l (T.L R) hC
  obtain ⟨S', g1, g2, g3⟩ := tab_split T R C h l G hR
  refine ⟨tabTo T R ++ rowTo T R C, one T R C, S ++ S', by rw [g1, h1]; simp only [List.append_assoc], by rw [g2, h2]; simp only [List.append_assoc], ?_, ?_, ?_⟩
  · intro x hx
    rcases List.mem_append.1 hx with hx | hx
    · exact .inl (tabTo_mem hx).1
    · obtain ⟨a, b, _⟩ := rowTo_mem hx; exact .inr ⟨a, b⟩
  · unfold one
    split
    · exact .inr ⟨_, rfl, rfl, rfl⟩
    · exact .inl rfl
  · intro x hx
    rcases List.mem_append.1 hx with hx | hx
    · obtain ⟨a, b⟩ := h3 x hx; exact .inr ⟨a.symm, b⟩
    · exact .inl (g3 x hx)

/-- One round of the law's own loop. -/
def geB (x X : Cel) : Bool := decide (X.r < x.r) || (decide (x.r = X.r) && decide (X.c ≤ x.c))
def sameB (x X : Cel) : Bool := decide (x.r = X.r) && decide (x.c = X.c)
def step (X : Cel) (s : List Cel × Bool) (x : Cel) : List Cel × Bool :=
  (s.1 ++ (if (!s.2 && geB x X) = true then [X] else []) ++ (if sameB x X = true then [] else [x]), s.2 || geB x X)
/-- What the loop has gathered behind k rounds. -/
def accTo (X : Cel) (S : List Cel) (k : Nat) : List Cel × Bool := (S.take k).foldl (step X) ([], false)
def fin (s : List Cel × Bool) (X : Cel) : List Cel := s.1 ++ (if s.2 = true then [] else [X])

theorem accTo_succ (X : Cel) (S : List Cel) (k : Nat) (hk : k < S.length) : accTo X S (k + 1) = step X (accTo X S k) S[k] := by
  unfold accTo
  rw [List.take_succ_eq_append_getElem hk, List.foldl_append]; rfl

theorem geB_lt {x X : Cel} (h : Lt x X) : geB x X = false ∧ sameB x X = false := by
  unfold Lt at h
  simp only [geB, sameB, Bool.or_eq_false_iff, Bool.and_eq_false_iff, decide_eq_false_iff_not]
  omega
theorem geB_gt {x X : Cel} (h : Lt X x) : geB x X = true ∧ sameB x X = false := by
  unfold Lt at h
  simp only [geB, sameB, Bool.or_eq_true, Bool.and_eq_true, Bool.and_eq_false_iff, decide_eq_false_iff_not, decide_eq_true_eq]
  omega
theorem geB_same {x X : Cel} (h : Same x X) : geB x X = true ∧ sameB x X = true := by
  unfold Same at h
  simp [geB, sameB, h.1, h.2]

theorem fold_lt (X : Cel) (l : List Cel) (a : List Cel) (h : ∀ x ∈ l, Lt x X) : l.foldl (step X) (a, false) = (a ++ l, false) := by
  induction l generalizing a with
  | nil => simp
  | cons x l ih =>
    obtain ⟨h1, h2⟩ := geB_lt (h x (by simp))
    rw [List.foldl_cons]
    have e : step X (a, false) x = (a ++ [x], false) := by simp [step, h1, h2]
    rw [e, ih _ (fun y hy => h y (by simp [hy]))]; simp
theorem fold_gt (X : Cel) (l : List Cel) (a : List Cel) (h : ∀ x ∈ l, Lt X x) : l.foldl (step X) (a, true) = (a ++ l, true) := by
  induction l generalizing a with
  | nil => simp
  | cons x l ih =>
    obtain ⟨h1, h2⟩ := geB_gt (h x (by simp))
    rw [List.foldl_cons]
    have e : step X (a, true) x = (a ++ [x], true) := by simp [step, h2]
    rw [e, ih _ (fun y hy => h y (by simp [hy]))]; simp

/-- THE LAW: the loop gives just the new table's cells. -/
theorem set_one (T : Tab) (R C : Nat) (h l : Int) (G : Nat) (hR : R < G) (hC : C < T.L R) :
    fin (accTo ⟨R, C, h, l⟩ (tabTo T G) (tabTo T G).length) ⟨R, C, h, l⟩ = tabTo (upd T R C h l) G := by
  obtain ⟨B1, M, B2, e1, e2, h1, hM, h2⟩ := one_slot T R C h l G hR hC
  unfold accTo
  rw [List.take_of_length_le (Nat.le_refl _), e2, e1, List.append_assoc, List.foldl_append, fold_lt _ B1 [] h1, List.nil_append, List.foldl_append]
  rcases hM with rfl | ⟨m, rfl, hm⟩
  · cases B2 with
    | nil => simp [fin]
    | cons x B2 =>
      obtain ⟨g1, g2⟩ := geB_gt (h2 x (by simp))
      have e : step ⟨R, C, h, l⟩ (B1, false) x = (B1 ++ [⟨R, C, h, l⟩] ++ [x], true) := by simp [step, g1, g2]
      rw [List.foldl_nil, List.foldl_cons, e, fold_gt _ B2 _ (fun y hy => h2 y (by simp [hy]))]
      simp [fin]
  · obtain ⟨g1, g2⟩ := geB_same hm
    have e : step ⟨R, C, h, l⟩ (B1, false) m = (B1 ++ [⟨R, C, h, l⟩], true) := by simp [step, g1, g2]
    rw [List.foldl_cons, List.foldl_nil, e, fold_gt _ B2 _ h2]
    simp [fin]

theorem acc_len (X : Cel) (S : List Cel) (k : Nat) (hk : k ≤ S.length) : (accTo X S k).1.length ≤ k + 1 ∧ ((accTo X S k).2 = false → (accTo X S k).1.length ≤ k) := by
  induction k with
  | zero => simp [accTo]
  | succ k ih =>
    obtain ⟨h1, h2⟩ := ih (by omega)
    rw [accTo_succ X S k (by omega)]
    generalize accTo X S k = s at h1 h2
    obtain ⟨a, p⟩ := s
    cases p <;> cases hg : geB S[k] X <;> cases hs : sameB S[k] X <;> simp [step, hg, hs] at h1 h2 ⊢ <;> omega

end Go.Proofs.Qxb6602192a.Pl
