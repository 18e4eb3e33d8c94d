/-
  What FnTableCellsSetOne wants besides: four slices of the call's own that are appended to in turn; eqInt, eqU64; a slot that is set.
-/
import Derived.Test.Qxb6602192aWalkE
namespace Go.Proofs.Qxb6602192a
open Go.RowKit

/-! ### Four slices of the call's own -/
def vec4 {α : Type} (a b c d : α) : Nat → α
  | 0 => a
  | 1 => b
  | 2 => c
  | _ => d
def setAt {α : Type} (f : Nat → α) (k : Nat) (x : α) : Nat → α := fun i => if i = k then x else f i
section
variable {α : Type} (a b c d x : α)
theorem setAt0 : setAt (vec4 a b c d) 0 x = vec4 x b c d := by
  funext i
  match i with
  | 0 => rfl
  | 1 => rfl
  | 2 => rfl
  | _ + 3 => rfl
theorem setAt1 : setAt (vec4 a b c d) 1 x = vec4 a x c d := by
  funext i
  match i with
  | 0 => rfl
  | 1 => rfl
  | 2 => rfl
  | _ + 3 => rfl
theorem setAt2 : setAt (vec4 a b c d) 2 x = vec4 a b x d := by
  funext i
  match i with
  | 0 => rfl
  | 1 => rfl
  | 2 => rfl
  | _ + 3 => rfl
theorem setAt3 (f : Nat → α) (hf : ∀ i, i < 4 → f i = vec4 a b c d i) : ∀ i, i < 4 → setAt f 3 x i = vec4 a b c x i := by
  intro i hi
  match i, hi with
  | 0, h => exact hf 0 h
  | 1, h => exact hf 1 h
  | 2, h => exact hf 2 h
  | 3, _ => rfl
end

def eT : Nat → TypeId := vec4 3 3 22 22
def tT : Nat → TypeId := vec4 41 41 27 27

/-- Four slices, each its own row; no two of them lie in one block. -/
structure OwnF (base : Nat) (w : World) (v0 v1 v2 v3 : Value) (x0 x1 x2 x3 : List Value) : Prop where
  own : ∀ i, i < 4 → w.ownsRow base (eT i) 1 (vec4 v0 v1 v2 v3 i) (vec4 x0 x1 x2 x3 i).length (vec4 x0 x1 x2 x3 i)
  apart : ∀ i j, i < 4 → j < 4 → i ≠ j → ∀ b, (vec4 v0 v1 v2 v3 i).ownBlock = some b → (vec4 v0 v1 v2 v3 j).ownBlock = some b → False

/-- The same, by functions. -/
structure OwnG (base : Nat) (w : World) (v : Nat → Value) (x : Nat → List Value) : Prop where
  own : ∀ i, i < 4 → w.ownsRow base (eT i) 1 (v i) (x i).length (x i)
  apart : ∀ i j, i < 4 → j < 4 → i ≠ j → ∀ b, (v i).ownBlock = some b → (v j).ownBlock = some b → False

theorem ownG_push {base : Nat} {w w' : World} {v : Nat → Value} {x : Nat → List Value} {o : Obj} {k : Nat} {u : Value} {g cap : Nat} (O : OwnG base w v x)
    (hown : w'.ownsRow base (eT k) 1 (.slice (some ⟨g, 0, none⟩) ((x k).length + 1) cap) ((x k).length + 1) (x k ++ [u])) (hgrow : (w.alloc o).grownBy w' (v k).ownBlock) (hat : (v k).ownBlock = some g ∨ g = w.heap.size + 1) (hk : k < 4) :
    OwnG base w' (setAt v k (.slice (some ⟨g, 0, none⟩) ((x k).length + 1) cap)) (setAt x k (x k ++ [u])) := by
  have old : ∀ j, j < 4 → j ≠ k → ∀ b, (v j).ownBlock = some b → b = g → False := by
    intro j hj hne b hb e
    subst e
    rcases hat with h | h
    · exact O.apart j k hj hk hne b hb h
    · have := ((O.own j hj).lt b hb).2; omega
  refine ⟨fun i hi => ?_, fun i j hi hj hne b hb hb' => ?_⟩
  · by_cases e : i = k
    · subst e; simp only [setAt, if_true, List.length_append, List.length_cons, List.length_nil]; exact hown
    · simp only [setAt, if_neg e]
      refine ((O.own i hi).alloc o).kept hgrow ?_
      cases hb : (v i).ownBlock with
      | none => exact .inl rfl
      | some b => exact .inr fun h => O.apart i k hi hk e b hb h.symm
  · by_cases ei : i = k
    · have ej : j ≠ k := fun h => hne (ei.trans h.symm)
      simp only [setAt, if_pos ei, Value.ownBlock] at hb
      simp only [setAt, if_neg ej] at hb'
      exact old j hj ej b hb' (Option.some.inj hb).symm
    · simp only [setAt, if_neg ei] at hb
      by_cases ej : j = k
      · simp only [setAt, if_pos ej, Value.ownBlock] at hb'
        exact old i hi ei b hb (Option.some.inj hb').symm
      · simp only [setAt, if_neg ej] at hb'
        exact O.apart i j hi hj hne b hb hb'

theorem OwnG.congr {base : Nat} {w : World} {v v' : Nat → Value} {x x' : Nat → List Value} (O : OwnG base w v x) (hv : ∀ i, i < 4 → v i = v' i) (hx : ∀ i, i < 4 → x i = x' i) : OwnG base w v' x' :=
  ⟨fun i hi => by rw [← hv i hi, ← hx i hi]; exact O.own i hi, fun i j hi hj hne b hb hb' => O.apart i j hi hj hne b (by rw [hv i hi]; exact hb) (by rw [hv j hj]; exact hb')⟩

theorem ownF_G {base : Nat} {w : World} {v0 v1 v2 v3 : Value} {x0 x1 x2 x3 : List Value} (O : OwnF base w v0 v1 v2 v3 x0 x1 x2 x3) : OwnG base w (vec4 v0 v1 v2 v3) (vec4 x0 x1 x2 x3) := ⟨O.own, O.apart⟩
theorem ownG_F {base : Nat} {w : World} {v0 v1 v2 v3 : Value} {x0 x1 x2 x3 : List Value} (O : OwnG base w (vec4 v0 v1 v2 v3) (vec4 x0 x1 x2 x3)) : OwnF base w v0 v1 v2 v3 x0 x1 x2 x3 := ⟨O.own, O.apart⟩

theorem ownF_nil (base : Nat) (w : World) : OwnF base w (.slice none 0 0) (.slice none 0 0) (.slice none 0 0) (.slice none 0 0) [] [] [] [] := by
  refine ⟨fun i hi => ?_, fun i j hi _ _ b hb => ?_⟩
  · match i, hi with
    | 0, _ => exact World.ownsRow_nil _ _ _ _
    | 1, _ => exact World.ownsRow_nil _ _ _ _
    | 2, _ => exact World.ownsRow_nil _ _ _ _
    | 3, _ => exact World.ownsRow_nil _ _ _ _
  · match i, hi with
    | 0, _ => cases hb
    | 1, _ => cases hb
    | 2, _ => cases hb
    | 3, _ => cases hb

theorem ownF_keep {base : Nat} {w w' : World} {v0 v1 v2 v3 : Value} {x0 x1 x2 x3 : List Value} (O : OwnF base w v0 v1 v2 v3 x0 x1 x2 x3) (hg : w.grownBy w' none) : OwnF base w' v0 v1 v2 v3 x0 x1 x2 x3 :=
  ⟨fun i hi => (O.own i hi).kept hg (by cases h : (vec4 v0 v1 v2 v3 i).ownBlock <;> simp), O.apart⟩

/-- One append of one number onto the k-th of them, in a world in which that number has just been boxed. -/
theorem wpList_push (w : World) {ops : Array Oper} {rest : List Oper} {o : Oper} {a : Act} {Q : Exit → Act → World → Prop} (hgd : o.guard = none) (s y : Operand) (k : Nat) (hk : k < 4) (t : TypeId) (htt : t = tT k)
    (ho : o.op = .call { callee := .builtin .append, args := #[s, y], argTypes := #[t, t] }) (base : Nat) (T : TypeId) (u : Value) (hu : u.oneCell' = true)
    {v : Nat → Value} {x : Nat → List Value} (O : OwnG base w v x) (hs : a.eval s = v k) (hy : a.eval y = .slice (some ⟨w.heap.size, 0, none⟩) 1 1) (hlen : (x k).length ≤ 2000000) (hbase : base ≤ w.heap.size)
    (h : ∀ (v' : Value) (w' : World), OwnG base w' (setAt v k v') (setAt x k (x k ++ [u])) → Below base w w' → wpList Try.prog ops Q rest (a.put o.dst v') w') :
    wpList Try.prog ops Q (o :: rest) a (w.alloc (.cells #[u] T)) := by
  have hun : Try.prog.underlying t = some (.slice (eT k)) := by
    subst htt
    match k, hk with
    | 0, _ => exact Try.underlying41
    | 1, _ => exact Try.underlying41
    | 2, _ => exact Try.underlying27
    | 3, _ => exact Try.underlying27
  obtain ⟨z, hz1, hinfo⟩ : ∃ z : Value, z.cells.size = 1 ∧ (Try.prog.info? (eT k)).map (fun i => (i.zero, i.size, i.bytes)) = some (some z, 1, 8) := by
    match k, hk with
    | 0, _ => exact ⟨_, rfl, Try.info3⟩
    | 1, _ => exact ⟨_, rfl, Try.info3⟩
    | 2, _ => exact ⟨_, rfl, Try.info22⟩
    | 3, _ => exact ⟨_, rfl, Try.info22⟩
  obtain ⟨i0, hi, hz0, hzs, hzb⟩ := info_parts hinfo
  refine wpList_append_lies _ hgd s y t ho base (eT k) i0 z 1 8 hun hi hz0 hzs hzb hz1 (by decide) (v k) (x k).length (x k) hs ((O.own k hk).alloc _) ⟨w.heap.size, 0, none⟩ 1 1 [u] hy rfl ?_ ?_ (by decide) (by unfold maxLen; omega) (by omega) (by simp; omega) (w.heap.size + 1) (by simp) ?_
  · intro j y hj
    match j, hj with
    | 0, hj => simp at hj; subst hj; simp [Addr.add]
  · intro y hy; simp at hy; subst hy; exact hu
  · intro g cap w' hown hgrow hat _
    refine h _ w' (ownG_push O hown hgrow hat hk) ?_
    exact ((Below.refl base w).alloc hbase _).grown hgrow (by simp; omega) (fun j hj => ((O.own k hk).lt j hj).1)

theorem wpList_push0 (w : World) {ops : Array Oper} {rest : List Oper} {o : Oper} {a : Act} {Q : Exit → Act → World → Prop} (hgd : o.guard = none) (s y : Operand)
    (ho : o.op = .call { callee := .builtin .append, args := #[s, y], argTypes := #[41, 41] }) (base : Nat) (T : TypeId) (u : Value) (hu : u.oneCell' = true)
    {v0 v1 v2 v3 : Value} {x0 x1 x2 x3 : List Value} (O : OwnF base w v0 v1 v2 v3 x0 x1 x2 x3) (hs : a.eval s = v0) (hy : a.eval y = .slice (some ⟨w.heap.size, 0, none⟩) 1 1) (hlen : x0.length ≤ 2000000) (hbase : base ≤ w.heap.size)
    (h : ∀ (v' : Value) (w' : World), OwnF base w' v' v1 v2 v3 (x0 ++ [u]) x1 x2 x3 → Below base w w' → wpList Try.prog ops Q rest (a.put o.dst v') w') :
    wpList Try.prog ops Q (o :: rest) a (w.alloc (.cells #[u] T)) :=
  wpList_push w hgd s y 0 (by decide) 41 rfl ho base T u hu (ownF_G O) hs hy hlen hbase fun v' w' O' hb => h v' w' (ownG_F (by rw [setAt0, setAt0] at O'; exact O')) hb

theorem wpList_push1 (w : World) {ops : Array Oper} {rest : List Oper} {o : Oper} {a : Act} {Q : Exit → Act → World → Prop} (hgd : o.guard = none) (s y : Operand)
    (ho : o.op = .call { callee := .builtin .append, args := #[s, y], argTypes := #[41, 41] }) (base : Nat) (T : TypeId) (u : Value) (hu : u.oneCell' = true)
    {v0 v1 v2 v3 : Value} {x0 x1 x2 x3 : List Value} (O : OwnF base w v0 v1 v2 v3 x0 x1 x2 x3) (hs : a.eval s = v1) (hy : a.eval y = .slice (some ⟨w.heap.size, 0, none⟩) 1 1) (hlen : x1.length ≤ 2000000) (hbase : base ≤ w.heap.size)
    (h : ∀ (v' : Value) (w' : World), OwnF base w' v0 v' v2 v3 x0 (x1 ++ [u]) x2 x3 → Below base w w' → wpList Try.prog ops Q rest (a.put o.dst v') w') :
    wpList Try.prog ops Q (o :: rest) a (w.alloc (.cells #[u] T)) :=
  wpList_push w hgd s y 1 (by decide) 41 rfl ho base T u hu (ownF_G O) hs hy hlen hbase fun v' w' O' hb => h v' w' (ownG_F (by rw [setAt1, setAt1] at O'; exact O')) hb

theorem wpList_push2 (w : World) {ops : Array Oper} {rest : List Oper} {o : Oper} {a : Act} {Q : Exit → Act → World → Prop} (hgd : o.guard = none) (s y : Operand)
    (ho : o.op = .call { callee := .builtin .append, args := #[s, y], argTypes := #[27, 27] }) (base : Nat) (T : TypeId) (u : Value) (hu : u.oneCell' = true)
    {v0 v1 v2 v3 : Value} {x0 x1 x2 x3 : List Value} (O : OwnF base w v0 v1 v2 v3 x0 x1 x2 x3) (hs : a.eval s = v2) (hy : a.eval y = .slice (some ⟨w.heap.size, 0, none⟩) 1 1) (hlen : x2.length ≤ 2000000) (hbase : base ≤ w.heap.size)
    (h : ∀ (v' : Value) (w' : World), OwnF base w' v0 v1 v' v3 x0 x1 (x2 ++ [u]) x3 → Below base w w' → wpList Try.prog ops Q rest (a.put o.dst v') w') :
    wpList Try.prog ops Q (o :: rest) a (w.alloc (.cells #[u] T)) :=
  wpList_push w hgd s y 2 (by decide) 27 rfl ho base T u hu (ownF_G O) hs hy hlen hbase fun v' w' O' hb => h v' w' (ownG_F (by rw [setAt2, setAt2] at O'; exact O')) hb

theorem wpList_push3 (w : World) {ops : Array Oper} {rest : List Oper} {o : Oper} {a : Act} {Q : Exit → Act → World → Prop} (hgd : o.guard = none) (s y : Operand)
    (ho : o.op = .call { callee := .builtin .append, args := #[s, y], argTypes := #[27, 27] }) (base : Nat) (T : TypeId) (u : Value) (hu : u.oneCell' = true)
    {v0 v1 v2 v3 : Value} {x0 x1 x2 x3 : List Value} (O : OwnF base w v0 v1 v2 v3 x0 x1 x2 x3) (hs : a.eval s = v3) (hy : a.eval y = .slice (some ⟨w.heap.size, 0, none⟩) 1 1) (hlen : x3.length ≤ 2000000) (hbase : base ≤ w.heap.size)
    (h : ∀ (v' : Value) (w' : World), OwnF base w' v0 v1 v2 v' x0 x1 x2 (x3 ++ [u]) → Below base w w' → wpList Try.prog ops Q rest (a.put o.dst v') w') :
    wpList Try.prog ops Q (o :: rest) a (w.alloc (.cells #[u] T)) :=
  wpList_push w hgd s y 3 (by decide) 27 rfl ho base T u hu (ownF_G O) hs hy hlen hbase fun v' w' O' hb => h v' w' (ownG_F (O'.congr (setAt3 _ _ _ _ _ _ (fun _ _ => rfl)) (setAt3 _ _ _ _ _ _ (fun _ _ => rfl)))) hb

/-! ### A column, and the two functions that compare columns -/
structure Col (k : IntKind) (w : World) (a : Option Addr) (b n : Nat) (f : Nat → Int) : Prop where
  addr : 0 < n → a = some ⟨b, 0, none⟩
  cell : ∀ i, i < n → w.cell? ⟨b, i, none⟩ = some (.int k (f i))

theorem Col.drewN {k : IntKind} {w : World} {a : Option Addr} {b n : Nat} {f : Nat → Int} (h : Col k w a b n f) (m : Nat) : Col k (w.drewN m) a b n f := ⟨h.addr, fun i hi => by simpa using h.cell i hi⟩

theorem own_col {k : IntKind} {w : World} {base : Nat} {e : TypeId} {v : Value} {l : List Int} {n : Nat} (hn : n = l.length) (h : w.ownsRow base e 1 v n (l.map (Value.int k))) :
    ∃ (a : Option Addr) (b cap : Nat), v = .slice a n cap ∧ Col k w a b n (fun i => l.getD i 0) := by
  rcases Nat.eq_zero_or_pos n with h0 | h0
  · rcases h.2 with ⟨rfl, _⟩ | ⟨g, cap, cur, rfl, _⟩
    · subst h0; exact ⟨none, 0, 0, rfl, by omega, by omega⟩
    · exact ⟨_, g, cap, rfl, by omega, by omega⟩
  · obtain ⟨g, cap, rfl, _, _⟩ := h.form h0
    refine ⟨_, g, cap, rfl, fun _ => rfl, fun i hi => ?_⟩
    have hc := h.cells (g := g) rfl i (.int k (l.getD i 0)) (by
      have : i < l.length := by omega
      simp [this])
    rw [Addr.add_lit, Nat.zero_add] at hc
    exact hc

set_option maxHeartbeats 2000000 in
theorem eqU64_any (a1 : Option Addr) (b1 n c1 : Nat) (f : Nat → Int) (a2 : Option Addr) (b2 c2 : Nat) (g : Nat → Int) (w : World) (h1 : Col .u64 w a1 b1 n f) (h2 : Col .u64 w a2 b2 n g) (hfg : ∀ i, i < n → f i = g i) (hn : n ≤ 2000000) :
    Calls Try.prog 19 #[.slice a1 n c1, .slice a2 n c2] w fun e w' => e = .returned (.bool true) ∧ ∃ m, w' = w.drewN m := by
  have HFG : Hid _ := hfg
  clear hfg
  go_enter Try.func19, Try.ntmps19
  go_wp2_with fail
  go_loopw [5] (fun s5 wr => ∃ (k m : Nat), k ≤ n ∧ s5 = .int .i64 k ∧ wr = w.drewN m) (fun i _ => n - (intOf i).toNat)
  case atStart => exact ⟨0, 0, Nat.zero_le _, rfl, rfl⟩
  case round =>
    obtain ⟨k, m, hk, rfl, rfl⟩ := hrel
    by_cases hlt : k < n
    · have hkz : (k : Int) < (n : Int) := by omega
      obtain rfl := h1.addr (by omega)
      obtain rfl := h2.addr (by omega)
      have d1 := h1.cell k hlt
      have d2 := h2.cell k hlt
      rw [HFG.out k hlt] at d1
      go_wp2_with fail
      go_quiet (fail)
      go_wp2_with fail
      go_roundw
      case rel => exact ⟨k + 1, m + nq, by omega, by go_num, by simp⟩
      case measure => simp [intOf]; omega
    · have hkz : ¬ (k : Int) < (n : Int) := by omega
      go_wp2_with fail
      go_ret
      exact ⟨rfl, m, rfl⟩

set_option maxHeartbeats 2000000 in
theorem eqInt_any (a1 : Option Addr) (b1 n c1 : Nat) (f : Nat → Int) (a2 : Option Addr) (b2 c2 : Nat) (g : Nat → Int) (w : World) (h1 : Col .i64 w a1 b1 n f) (h2 : Col .i64 w a2 b2 n g) (hfg : ∀ i, i < n → f i = g i) (hn : n ≤ 2000000) :
    Calls Try.prog 29 #[.slice a1 n c1, .slice a2 n c2] w fun e w' => e = .returned (.bool true) ∧ ∃ m, w' = w.drewN m := by
  have HFG : Hid _ := hfg
  clear hfg
  go_enter Try.func29, Try.ntmps29
  go_wp2_with fail
  go_loopw [5] (fun s5 wr => ∃ (k m : Nat), k ≤ n ∧ s5 = .int .i64 k ∧ wr = w.drewN m) (fun i _ => n - (intOf i).toNat)
  case atStart => exact ⟨0, 0, Nat.zero_le _, rfl, rfl⟩
  case round =>
    obtain ⟨k, m, hk, rfl, rfl⟩ := hrel
    by_cases hlt : k < n
    · have hkz : (k : Int) < (n : Int) := by omega
      obtain rfl := h1.addr (by omega)
      obtain rfl := h2.addr (by omega)
      have d1 := h1.cell k hlt
      have d2 := h2.cell k hlt
      rw [HFG.out k hlt] at d1
      go_wp2_with fail
      go_quiet (fail)
      go_wp2_with fail
      go_roundw
      case rel => exact ⟨k + 1, m + nq, by omega, by go_num, by simp⟩
      case measure => simp [intOf]; omega
    · have hkz : ¬ (k : Int) < (n : Int) := by omega
      go_wp2_with fail
      go_ret
      exact ⟨rfl, m, rfl⟩

/-! ### A slot that is set -/
theorem OGrid.set {w : World} {N : Nat} {T E : TypeId} {G : Nat} {A : Nat → Option Addr} {L : Nat → Nat} {V V' : Nat → Nat → Value} (h : OGrid w N T E G A L V) {R C : Nat} (hR : R < G) (hs : (A R).isSome = true) (v : Value)
    (hV : ∀ r c, V' r c = if r = R ∧ c = C then v else V r c) : OGrid (w.setCell ⟨N + 1 + cnt A R, C, none⟩ v) N T E G A L V' := by
  refine ⟨fun h0 => (h.top h0).setOther (by show N ≠ N + 1 + cnt A R; omega) _, fun r hr hs' => ?_, h.nil⟩
  by_cases e : r = R
  · subst e
    exact ((h.row r hr hs').set C v).congr (fun i _ => by rw [hV]; by_cases e : i = C <;> simp [e])
  · have hne : N + 1 + cnt A r ≠ N + 1 + cnt A R := by
      rcases Nat.lt_or_gt_of_ne e with h1 | h1
      · have := cnt_lt A h1 hs'; omega
      · have := cnt_lt A h1 hs; omega
    exact ((h.row r hr hs').setOther (a := ⟨N + 1 + cnt A R, C, none⟩) hne _).congr (fun i _ => by rw [hV]; simp [e])

theorem OGrid.setOther {w : World} {N : Nat} {T E : TypeId} {G : Nat} {A : Nat → Option Addr} {L : Nat → Nat} {V : Nat → Nat → Value} (h : OGrid w N T E G A L V) {a : Addr} (ha : a.block < N ∨ N + 1 + cnt A G ≤ a.block) (v : Value) : OGrid (w.setCell a v) N T E G A L V :=
  h.kept fun b h1 h2 => Deep.blk_setCell_other _ _ _ _ (by omega)
end Go.Proofs.Qxb6602192a
