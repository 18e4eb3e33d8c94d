/-
  The reader of members: next.
-/
import Derived.Test.Qxb6602274aWalkG
import Derived.BigRegion
namespace Go.Proofs.Qxb6602274a
open Go.RowKit

theorem trim_at (b off n q k A L : Nat) (t : List Int) (w : World) (ht : Txt w (some ⟨b, off, none⟩) b off n t) (hn : n ≤ 65536) (hA : A = off + q) (hL : L = n - q) (hw : Pl.Ws t q k) (hk : k < n) :
    Calls Try.prog 30 #[.slice (some ⟨b, A, none⟩) L L] w fun r w' => r = .returned (.slice (some ⟨b, off + k, none⟩) (n - k) (n - k)) ∧ w' = w := by
  subst hA hL
  have hqk := hw.le
  refine (trim_any _ b (off + q) (n - q) (n - q) (k - q) (t.drop q) w (ht.shift q) (by omega) (Nat.le_refl _) (Pl.Ws.shift (by rw [Nat.add_zero, show q + (k - q) = k by omega]; exact hw)) (by omega)).mono ?_
  rintro e w' ⟨rfl, rfl⟩
  rw [show off + q + (k - q) = off + k by omega, show n - q - (k - q) = n - k by omega]
  exact ⟨rfl, rfl⟩

theorem valueLen_at (b off n q e : Nat) (t : List Int) (w : World) (ht : Txt w (some ⟨b, off, none⟩) b off n t) (hn : n ≤ 65536) (hv : Pl.Val t q e) (hf : Pl.Fol t e) :
    Calls Try.prog 24 #[.slice (some ⟨b, off + q, none⟩) (n - q) (n - q)] w fun r w' => r = .returned (.int .i64 ((e - q : Nat) : Int)) ∧ w' = w :=
  valueLen_any _ b (off + q) (n - q) (n - q) (e - q) (t.drop q) w (ht.shift q) (by omega) (Nat.le_refl _) hv.shift (hf.shift (by have := hv.1; omega))

theorem strLen_at (b off n q e : Nat) (t : List Int) (w : World) (ht : Txt w (some ⟨b, off, none⟩) b off n t) (hn : n ≤ 65536) (hx : t[q]? = some 34) (hs : Pl.SkS t (q + 1) 1 e) :
    Calls Try.prog 24 #[.slice (some ⟨b, off + q, none⟩) (n - q) (n - q)] w fun r w' => r = .returned (.int .i64 ((e - q : Nat) : Int)) ∧ w' = w :=
  vl_str _ b (off + q) (n - q) (n - q) (e - q) (t.drop q) w (ht.shift q) (by omega) (by rw [List.getElem?_drop]; exact hx) (Pl.sks_shift.2 (by have := hs.lt; rw [show q + (e - q) = e by omega]; exact hs))

/-- The reader in block C. -/
def Cur (w : World) (C : Nat) (R : Value) (o : Bool) (nm vl : Value) : Prop := w.rowIs C 49 4 (fun i => if i = 0 then R else if i = 1 then .bool o else if i = 2 then nm else vl)
section
variable {w : World} {C : Nat} {R nm vl : Value} {o : Bool}
theorem Cur.c0 (h : Cur w C R o nm vl) : w.cell? ⟨C, 0, none⟩ = some R := World.rowIs.cell h (i := 0) (by omega)
theorem Cur.c1 (h : Cur w C R o nm vl) : w.cell? ⟨C, 1, none⟩ = some (.bool o) := World.rowIs.cell h (i := 1) (by omega)
theorem Cur.c2 (h : Cur w C R o nm vl) : w.cell? ⟨C, 2, none⟩ = some nm := World.rowIs.cell h (i := 2) (by omega)
theorem Cur.c3 (h : Cur w C R o nm vl) : w.cell? ⟨C, 3, none⟩ = some vl := World.rowIs.cell h (i := 3) (by omega)
theorem Cur.fr (h : Cur w C R o nm vl) (i : Nat) : w.frozen? ⟨C, i, none⟩ = false := World.rowIs.frozen h i
theorem Cur.set0 (h : Cur w C R o nm vl) (v : Value) : Cur (w.setCell ⟨C, 0, none⟩ v) C v o nm vl := by
  refine (World.rowIs.set h 0 _).congr (fun i hi => ?_)
  match i, hi with
  | 0, _ => rfl
  | 1, _ => rfl
  | 2, _ => rfl
  | 3, _ => rfl
theorem Cur.set2 (h : Cur w C R o nm vl) (v : Value) : Cur (w.setCell ⟨C, 2, none⟩ v) C R o v vl := by
  refine (World.rowIs.set h 2 _).congr (fun i hi => ?_)
  match i, hi with
  | 0, _ => rfl
  | 1, _ => rfl
  | 2, _ => rfl
  | 3, _ => rfl
theorem Cur.set3 (h : Cur w C R o nm vl) (v : Value) : Cur (w.setCell ⟨C, 3, none⟩ v) C R o nm v := by
  refine (World.rowIs.set h 3 _).congr (fun i hi => ?_)
  match i, hi with
  | 0, _ => rfl
  | 1, _ => rfl
  | 2, _ => rfl
  | 3, _ => rfl
theorem Cur.drewN (h : Cur w C R o nm vl) (m : Nat) : Cur (w.drewN m) C R o nm vl :=
  World.rowIs.of_block h (by rw [(World.drewN_alike w m).1])
end

theorem Txt.drewN {w : World} {a : Option Addr} {b off n : Nat} {t : List Int} (h : Txt w a b off n t) (m : Nat) : Txt (w.drewN m) a b off n t :=
  h.below (below_drewN' (Below.refl w.heap.size w) m) (fun hn => h.lt hn)

/-- The reader stands at place i; nothing of the old memory has changed. -/
structure At (w wr : World) (C b off n i : Nat) (o : Bool) (nm vl : Value) : Prop where
  cur : Cur wr C (.slice (some ⟨b, off + i, none⟩) (n - i) (n - i)) o nm vl
  bel : Below C w wr
  size : wr.heap.size = w.heap.size

set_option maxHeartbeats 1000000 in
theorem next_end (C b off n q c : Nat) (t : List Int) (o : Bool) (nm vl : Value) (w : World) (ht : Txt w (some ⟨b, off, none⟩) b off n t) (hn : n ≤ 65536) (hbC : b < C)
    (hcur : Cur w C (.slice (some ⟨b, off + q, none⟩) (n - q) (n - q)) o nm vl) (hw : Pl.Ws t q c) (x : Int) (hx : t[c]? = some x) (hxx : x = 93 ∨ x = 125) :
    Calls Try.prog 26 #[.pointer (some ⟨C, 0, none⟩)] w fun e w' => e = .returned (.bool false) ∧ At w w' C b off n c o nm vl := by
  obtain ⟨hcn, hcx⟩ := ht.at hx
  have g0 := hcur.c0
  have f0 := hcur.fr 0
  have HT := trim_at b off n q c (off + q) (n - q) t w ht hn rfl rfl hw hcn
  have HT' : Hid (Calls Try.prog 30 #[.slice (some ⟨b, off + q, none⟩) (n - q) (n - q)] w fun r w' => r = .returned (.slice (some ⟨b, off + c, none⟩) (n - c) (n - c)) ∧ w' = w) := HT
  have hCb : C ≠ b := by omega
  have hpos : 0 < n - c := by omega
  clear HT hw hx
  rcases hxx with rfl | rfl
  all_goals
    go_enter Try.func26, Try.ntmps26
    go_wp2_with (go_at_call 30; refine HT'.out.mono ?_; rintro e w' ⟨rfl, rfl⟩)
    go_ret
    exact ⟨rfl, hcur.set0 _, (Below.refl _ _).setCell (p := ⟨C, 0, none⟩) (Nat.le_refl _) _, by simp⟩

theorem Txt.set {w : World} {a : Option Addr} {b off n : Nat} {t : List Int} (h : Txt w a b off n t) {C : Nat} (hC : b < C) (j : Nat) (v : Value) : Txt (w.setCell ⟨C, j, none⟩ v) a b off n t :=
  h.below ((Below.refl C w).setCell (p := ⟨C, j, none⟩) (Nat.le_refl _) v) (fun _ => hC)

set_option maxHeartbeats 1000000 in
set_option maxRecDepth 100000 in
theorem next_arr (C b off n q va vb : Nat) (t : List Int) (nm vl : Value) (w : World) (ht : Txt w (some ⟨b, off, none⟩) b off n t) (hn : n ≤ 65536) (hbC : b < C)
    (hcur : Cur w C (.slice (some ⟨b, off + q, none⟩) (n - q) (n - q)) false nm vl) (hs : Pl.Start t q va) (hval : Pl.Val t va vb) (hfol : Pl.Fol t vb) :
    Calls Try.prog 26 #[.pointer (some ⟨C, 0, none⟩)] w fun e w' => e = .returned (.bool true) ∧ At w w' C b off n vb false nm (.slice (some ⟨b, off + va, none⟩) (vb - va) (n - va)) := by
  have hval0 := hval
  obtain ⟨hlt, hle, x, hx, hxd, _⟩ := hval
  rw [ht.len] at hle
  obtain ⟨hin, hcx⟩ := ht.at hx
  obtain ⟨hxw, hx44, hx93, hx125⟩ := delim_iff hxd
  have hCb : C ≠ b := by omega
  have hCi : Hid (∀ W, Txt W (some ⟨b, off, none⟩) b off n t → W.cell? ⟨b, off + va, none⟩ = some (.int .u8 x)) := fun W hW => (hW.at hx).2
  have e44 : (x == 44) = false := by simp [hx44]
  have e93 : (x == 93) = false := by simp [hx93]
  have e125 : (x == 125) = false := by simp [hx125]
  have HVL : Hid (∀ W, Txt W (some ⟨b, off, none⟩) b off n t → Calls Try.prog 24 #[.slice (some ⟨b, off + va, none⟩) (n - va) (n - va)] W fun r w' => r = .returned (.int .i64 ((vb - va : Nat) : Int)) ∧ w' = W) :=
    fun W hW => valueLen_at b off n va vb t W hW hn hval0 hfol
  have hpos : 0 < n - va := by omega
  have hvbn : vb < n := by obtain ⟨z, hz, _⟩ := hfol; exact (ht.at hz).1
  have HX : Hid (t[va]? = some x) := hx
  clear hval0 hfol hx hxd hxw
  have g0 := hcur.c0
  have f0 := hcur.fr 0
  obtain ⟨j, hw, hjn, hor⟩ : ∃ j, Pl.Ws t q j ∧ j < n ∧ ((j = va ∧ (t.getD j 0 == 44) = false) ∨ ((t.getD j 0 == 44) = true ∧ Pl.Ws t (j + 1) va)) := by
    rcases hs with hw | ⟨j, hw, hj, hw2⟩
    · exact ⟨va, hw, hin, .inl ⟨rfl, by rw [List.getD_eq_getElem?_getD, HX.out]; exact e44⟩⟩
    · exact ⟨j, hw, (ht.at hj).1, .inr ⟨by rw [List.getD_eq_getElem?_getD, hj]; rfl, hw2⟩⟩
  have hcj := ht.cell j hjn
  have hjpos : 0 < n - j := by omega
  have HT : Hid (Calls Try.prog 30 #[.slice (some ⟨b, off + q, none⟩) (n - q) (n - q)] w fun r w' => r = .returned (.slice (some ⟨b, off + j, none⟩) (n - j) (n - j)) ∧ w' = w) := trim_at b off n q j (off + q) (n - q) t w ht hn rfl rfl hw hjn
  have HOR : Hid ((j = va ∧ (t.getD j 0 == 44) = false) ∨ ((t.getD j 0 == 44) = true ∧ Pl.Ws t (j + 1) va)) := hor
  clear hw hs hor hcx
  generalize t.getD j 0 = y at *
  obtain ⟨r44, hr44⟩ : ∃ r, (y == 44) = r := ⟨_, rfl⟩
  go_enter Try.func26, Try.ntmps26
  go_wp2_with fail
  refine HT.out.mono ?_
  rintro e w' ⟨rfl, rfl⟩
  go_upto_if 19 with fail
  go_cut [2] (fun s2 wx => s2 = .bool false ∧ At w' wx C b off n va false nm vl)
  case first =>
    rcases HOR.out with ⟨rfl, hr⟩ | ⟨hr, hw2⟩
    · obtain rfl : r44 = false := by rw [← hr44]; exact hr
      go_wp2_with fail
      go_meet
      exact ⟨rfl, hcur.set0 _, (Below.refl _ _).setCell (p := ⟨C, 0, none⟩) (Nat.le_refl _) _, by simp⟩
    · obtain rfl : r44 = true := by rw [← hr44]; exact hr
      have HW2 : Hid (Pl.Ws t (j + 1) va) := hw2
      have hne1 : ¬ n - j = 1 := by have := hw2.le; omega
      clear hw2
      go_wp2_with fail
      refine (trim_at b off n (j + 1) va _ _ t _ (ht.set hbC _ _) hn (by omega) (by omega) HW2.out hin).mono ?_
      rintro e w'' ⟨rfl, rfl⟩
      go_wp2_with fail
      go_meet
      exact ⟨rfl, (hcur.set0 _).set0 _, ((Below.refl _ _).setCell (p := ⟨C, 0, none⟩) (Nat.le_refl _) _).setCell (p := ⟨C, 0, none⟩) (Nat.le_refl _) _, by simp⟩
  case rest =>
    obtain ⟨rfl, hcur1, hbel, hsize⟩ := hcut
    clear g0 f0 hcur
    have htx := ht.below hbel (fun _ => hbC)
    have g0 := hcur1.c0
    have g1 := hcur1.c1
    have f0 := hcur1.fr 0
    have f3 := hcur1.fr 3
    have g3 := hcur1.c3
    have hcx := hCi.out _ htx
    have hlz : vb - va ≤ n - va := by omega
    have hlz1 : ¬ n - va = vb - va := by omega
    have hlz2 : ¬ vb - va = n - va := by omega
    have hlz3 : ((vb - va : Nat) : Int) ≤ ((n - va : Nat) : Int) := by omega
    go_wp2_with (go_at_call 24; refine (HVL.out _ htx).mono ?_; rintro e w' ⟨rfl, rfl⟩)
    go_big_region
    all_goals go_wp2_with fail
    all_goals go_ret
    all_goals refine ⟨rfl, ?_, ?_, ?_⟩
    all_goals first
      | (rw [show off + vb = off + va + (vb - va) by omega, show n - vb = n - va - (vb - va) by omega]; first | exact (hcur1.set3 _).set0 _ | exact (hcur1.set0 _).set3 _)
      | exact Below.drew ((hbel.setCell (p := ⟨C, 3, none⟩) (Nat.le_refl _) _).setCell (p := ⟨C, 0, none⟩) (Nat.le_refl _) _)
      | exact Below.drew ((hbel.setCell (p := ⟨C, 0, none⟩) (Nat.le_refl _) _).setCell (p := ⟨C, 3, none⟩) (Nat.le_refl _) _)
      | simpa using hsize

set_option maxHeartbeats 1000000 in
set_option maxRecDepth 100000 in
theorem next_obj (C b off n q na nb j2 va vb : Nat) (t : List Int) (nm vl : Value) (w : World) (ht : Txt w (some ⟨b, off, none⟩) b off n t) (hn : n ≤ 65536) (hbC : b < C)
    (hcur : Cur w C (.slice (some ⟨b, off + q, none⟩) (n - q) (n - q)) true nm vl) (hs : Pl.Start t q na) (hna : t[na]? = some 34) (hnm : Pl.SkS t (na + 1) 1 nb) (hw3 : Pl.Ws t nb j2) (hw4 : Pl.Ws t (j2 + 1) va) (hval : Pl.Val t va vb) (hfol : Pl.Fol t vb) :
    Calls Try.prog 26 #[.pointer (some ⟨C, 0, none⟩)] w fun e w' => e = .returned (.bool true) ∧ At w w' C b off n vb true (.slice (some ⟨b, off + na, none⟩) (nb - na) (n - na)) (.slice (some ⟨b, off + va, none⟩) (vb - va) (n - va)) := by
  have hlt := hval.1
  have hle := hval.2.1
  rw [ht.len] at hle
  obtain ⟨hin, hcx⟩ := ht.at hna
  have hCb : C ≠ b := by omega
  have hCi : Hid (∀ W, Txt W (some ⟨b, off, none⟩) b off n t → W.cell? ⟨b, off + na, none⟩ = some (.int .u8 34)) := fun W hW => (hW.at hna).2
  have HVN : Hid (∀ W, Txt W (some ⟨b, off, none⟩) b off n t → Calls Try.prog 24 #[.slice (some ⟨b, off + na, none⟩) (n - na) (n - na)] W fun r w' => r = .returned (.int .i64 ((nb - na : Nat) : Int)) ∧ w' = W) :=
    fun W hW => strLen_at b off n na nb t W hW hn hna hnm
  have HVL : Hid (∀ W, Txt W (some ⟨b, off, none⟩) b off n t → Calls Try.prog 24 #[.slice (some ⟨b, off + va, none⟩) (n - va) (n - va)] W fun r w' => r = .returned (.int .i64 ((vb - va : Nat) : Int)) ∧ w' = W) :=
    fun W hW => valueLen_at b off n va vb t W hW hn hval hfol
  have hpos : 0 < n - na := by omega
  have hvbn : vb < n := by obtain ⟨z, hz, _⟩ := hfol; exact (ht.at hz).1
  have HX : Hid (t[na]? = some 34) := hna
  have hnl := hnm.lt
  have hl3 := hw3.le
  have hl4 := hw4.le
  have H3 : Hid (Pl.Ws t nb j2) := hw3
  have H4 : Hid (Pl.Ws t (j2 + 1) va) := hw4
  clear hval hfol hna hnm hw3 hw4
  have g0 := hcur.c0
  have f0 := hcur.fr 0
  obtain ⟨j, hw, hjn, hor⟩ : ∃ j, Pl.Ws t q j ∧ j < n ∧ ((j = na ∧ (t.getD j 0 == 44) = false) ∨ ((t.getD j 0 == 44) = true ∧ Pl.Ws t (j + 1) na)) := by
    rcases hs with hw | ⟨j, hw, hj, hw2⟩
    · exact ⟨na, hw, hin, .inl ⟨rfl, by rw [List.getD_eq_getElem?_getD, HX.out]; rfl⟩⟩
    · exact ⟨j, hw, (ht.at hj).1, .inr ⟨by rw [List.getD_eq_getElem?_getD, hj]; rfl, hw2⟩⟩
  have hcj := ht.cell j hjn
  have hjpos : 0 < n - j := by omega
  have HT : Hid (Calls Try.prog 30 #[.slice (some ⟨b, off + q, none⟩) (n - q) (n - q)] w fun r w' => r = .returned (.slice (some ⟨b, off + j, none⟩) (n - j) (n - j)) ∧ w' = w) := trim_at b off n q j (off + q) (n - q) t w ht hn rfl rfl hw hjn
  have HOR : Hid ((j = na ∧ (t.getD j 0 == 44) = false) ∨ ((t.getD j 0 == 44) = true ∧ Pl.Ws t (j + 1) na)) := hor
  clear hw hs hor hcx
  generalize t.getD j 0 = y at *
  obtain ⟨r44, hr44⟩ : ∃ r, (y == 44) = r := ⟨_, rfl⟩
  go_enter Try.func26, Try.ntmps26
  go_wp2_with fail
  refine HT.out.mono ?_
  rintro e w' ⟨rfl, rfl⟩
  go_upto_if 19 with fail
  go_cut [2] (fun s2 wx => s2 = .bool false ∧ At w' wx C b off n na true nm vl)
  case first =>
    rcases HOR.out with ⟨rfl, hr⟩ | ⟨hr, hw2⟩
    · obtain rfl : r44 = false := by rw [← hr44]; exact hr
      go_wp2_with fail
      go_meet
      exact ⟨rfl, hcur.set0 _, (Below.refl _ _).setCell (p := ⟨C, 0, none⟩) (Nat.le_refl _) _, by simp⟩
    · obtain rfl : r44 = true := by rw [← hr44]; exact hr
      have HW2 : Hid (Pl.Ws t (j + 1) na) := hw2
      have hne1 : ¬ n - j = 1 := by have := hw2.le; omega
      clear hw2
      go_wp2_with fail
      refine (trim_at b off n (j + 1) na _ _ t _ (ht.set hbC _ _) hn (by omega) (by omega) HW2.out hin).mono ?_
      rintro e w'' ⟨rfl, rfl⟩
      go_wp2_with fail
      go_meet
      exact ⟨rfl, (hcur.set0 _).set0 _, ((Below.refl _ _).setCell (p := ⟨C, 0, none⟩) (Nat.le_refl _) _).setCell (p := ⟨C, 0, none⟩) (Nat.le_refl _) _, by simp⟩
  case rest =>
    obtain ⟨rfl, hcur1, hbel, hsize⟩ := hcut
    clear g0 f0 hcur
    have htx := ht.below hbel (fun _ => hbC)
    have g0 := hcur1.c0
    have g1 := hcur1.c1
    have f0 := hcur1.fr 0
    have f3 := hcur1.fr 3
    have g3 := hcur1.c3
    have hcx := hCi.out _ htx
    have hn1 : nb - na ≤ n - na := by omega
    have hn2 : ¬ n - na = nb - na := by omega
    have hn3 : ((nb - na : Nat) : Int) ≤ ((n - na : Nat) : Int) := by omega
    have hn4 : ¬ n - j2 = 1 := by omega
    have hn5 : 1 ≤ n - j2 := by omega
    have g2 := hcur1.c2
    have f2 := hcur1.fr 2
    go_upto_if 48 with fail
    go_cut [2] (fun s2 wx => s2 = .bool false ∧ At w' wx C b off n va true (.slice (some ⟨b, off + na, none⟩) (nb - na) (n - na)) vl)
    case first =>
      go_wp2_with fail
      refine (HVN.out _ htx).mono ?_
      rintro e w1 ⟨rfl, rfl⟩
      go_wp2_with fail
      refine (trim_at b off n nb j2 _ _ t _ (htx.set hbC _ _) hn (by omega) (by omega) H3.out (by omega)).mono ?_
      rintro e w2 ⟨rfl, rfl⟩
      go_wp2_with fail
      refine (trim_at b off n (j2 + 1) va _ _ t _ (htx.set hbC _ _) hn (by omega) (by omega) H4.out (by omega)).mono ?_
      rintro e w3 ⟨rfl, rfl⟩
      go_wp2_with fail
      go_meet
      exact ⟨rfl, (hcur1.set2 _).set0 _, (hbel.setCell (p := ⟨C, 2, none⟩) (Nat.le_refl _) _).setCell (p := ⟨C, 0, none⟩) (Nat.le_refl _) _, by simpa using hsize⟩
    case rest =>
    clear hcur1 hbel hsize htx g0 g1 f0 f3 g3 hcx g2 f2
    obtain ⟨rfl, hcur1, hbel, hsize⟩ := hcut
    have htx := ht.below hbel (fun _ => hbC)
    have g0 := hcur1.c0
    have g1 := hcur1.c1
    have f0 := hcur1.fr 0
    have f3 := hcur1.fr 3
    have g3 := hcur1.c3
    have hlz : vb - va ≤ n - va := by omega
    have hlz1 : ¬ n - va = vb - va := by omega
    have hlz2 : ¬ vb - va = n - va := by omega
    have hlz3 : ((vb - va : Nat) : Int) ≤ ((n - va : Nat) : Int) := by omega
    go_wp2_with (go_at_call 24; refine (HVL.out _ htx).mono ?_; rintro e w' ⟨rfl, rfl⟩)
    go_big_region
    all_goals go_wp2_with fail
    all_goals go_ret
    all_goals refine ⟨rfl, ?_, ?_, ?_⟩
    all_goals first
      | (rw [show off + vb = off + va + (vb - va) by omega, show n - vb = n - va - (vb - va) by omega]; first | exact (hcur1.set3 _).set0 _ | exact (hcur1.set0 _).set3 _)
      | exact Below.drew ((hbel.setCell (p := ⟨C, 3, none⟩) (Nat.le_refl _) _).setCell (p := ⟨C, 0, none⟩) (Nat.le_refl _) _)
      | exact Below.drew ((hbel.setCell (p := ⟨C, 0, none⟩) (Nat.le_refl _) _).setCell (p := ⟨C, 3, none⟩) (Nat.le_refl _) _)
      | simpa using hsize

end Go.Proofs.Qxb6602274a
