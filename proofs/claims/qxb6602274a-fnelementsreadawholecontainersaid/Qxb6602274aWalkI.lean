/-
  ZZelementsNext.
-/
import Derived.Test.Qxb6602274aWalkH
namespace Go.Proofs.Qxb6602274a
open Go.RowKit

set_option maxHeartbeats 1000000 in
theorem zzNext_of (a1 a2 a3 a1' a2' a3' : Option Addr) (n1 c1 n2 c2 n3 c3 n1' c1' n2' c2' n3' c3' : Nat) (o r : Bool) (w : World)
    (H : ∀ W, Cur W w.heap.size (.slice a1 n1 c1) o (.slice a2 n2 c2) (.slice a3 n3 c3) → Below w.heap.size w W →
      Calls Try.prog 26 #[.pointer (some ⟨w.heap.size, 0, none⟩)] W fun e w' => e = .returned (.bool r) ∧ Cur w' w.heap.size (.slice a1' n1' c1') o (.slice a2' n2' c2') (.slice a3' n3' c3') ∧ Below w.heap.size W w') :
    Calls Try.prog 13 #[.slice a1 n1 c1, .bool o, .slice a2 n2 c2, .slice a3 n3 c3] w fun e w' => e = .returned (.tuple #[.bool r, .slice a1' n1' c1', .slice a2' n2' c2', .slice a3' n3' c3']) ∧ Below w.heap.size w w' := by
  have hc0 : Cur (w.alloc (.cells #[.slice a1 n1 c1, .bool o, .slice a2 n2 c2, .slice a3 n3 c3] 49)) w.heap.size (.slice a1 n1 c1) o (.slice a2 n2 c2) (.slice a3 n3 c3) :=
    World.rowIs_alloc w #[.slice a1 n1 c1, .bool o, .slice a2 n2 c2, .slice a3 n3 c3] 49 _ (fun i hi => by
      match i, hi with
      | 0, _ => rfl
      | 1, _ => rfl
      | 2, _ => rfl
      | 3, _ => rfl)
  have hb0 : Below w.heap.size w (w.alloc (.cells #[.slice a1 n1 c1, .bool o, .slice a2 n2 c2, .slice a3 n3 c3] 49)) := (Below.refl _ _).alloc (Nat.le_refl _) _
  have HC : Hid (Calls Try.prog 26 #[.pointer (some ⟨w.heap.size, 0, none⟩)] (w.alloc (.cells #[.slice a1 n1 c1, .bool o, .slice a2 n2 c2, .slice a3 n3 c3] 49)) fun e w' => e = .returned (.bool r) ∧ Cur w' w.heap.size (.slice a1' n1' c1') o (.slice a2' n2' c2') (.slice a3' n3' c3') ∧ Below w.heap.size (w.alloc (.cells #[.slice a1 n1 c1, .bool o, .slice a2 n2 c2, .slice a3 n3 c3] 49)) w') := H _ hc0 hb0
  have HB : Hid (Below w.heap.size w (w.alloc (.cells #[.slice a1 n1 c1, .bool o, .slice a2 n2 c2, .slice a3 n3 c3] 49))) := hb0
  clear hc0 hb0 H
  go_enter Try.func13, Try.ntmps13
  go_wp2_with fail
  refine HC.out.mono ?_
  rintro e w' ⟨rfl, hcur, hbel⟩
  have g0 := hcur.c0
  have g2 := hcur.c2
  have g3 := hcur.c3
  go_wp2_with fail
  go_quiet (fail)
  go_wp2_with fail
  refine bodyPost_ret (results_tmp4 rfl _ _ _) rfl ?_
  exact ⟨rfl, below_drewN' (HB.out.trans hbel) _⟩

/-- A piece of the text: from p to q, with all the room behind it. -/
def cut (b off n p q : Nat) : Value := .slice (some ⟨b, off + p, none⟩) (q - p) (n - p)

/-- What is asked of the three that hang on the reader's state. -/
theorem zzNext_end (b off n q c : Nat) (t : List Int) (o : Bool) (a2 a3 : Option Addr) (n2 c2 n3 c3 : Nat) (w : World) (ht : Txt w (some ⟨b, off, none⟩) b off n t) (hn : n ≤ 65536) (hb : b < w.heap.size) (hi : Pl.Items t o [] q c) :
    Calls Try.prog 13 #[.slice (some ⟨b, off + q, none⟩) (n - q) (n - q), .bool o, .slice a2 n2 c2, .slice a3 n3 c3] w fun e w' => e = .returned (.tuple #[.bool false, .slice (some ⟨b, off + c, none⟩) (n - c) (n - c), .slice a2 n2 c2, .slice a3 n3 c3]) ∧ Below w.heap.size w w' := by
  obtain ⟨hw, x, hx, hxx⟩ := hi
  refine zzNext_of _ _ _ _ _ _ _ _ _ _ _ _ _ _ _ _ _ _ _ _ w fun W hcur hbel => ?_
  refine (next_end w.heap.size b off n q c t o _ _ W (ht.below hbel (fun _ => hb)) hn hb hcur hw x hx hxx).mono ?_
  rintro e w' ⟨rfl, hat⟩
  exact ⟨rfl, hat.cur, hat.bel⟩

theorem zzNext_arr (b off n q c : Nat) (t : List Int) (a2 a3 : Option Addr) (n2 c2 n3 c3 : Nat) (w : World) (ht : Txt w (some ⟨b, off, none⟩) b off n t) (hn : n ≤ 65536) (hb : b < w.heap.size) (s : Pl.Span) (ss : List Pl.Span) (hi : Pl.Items t false (s :: ss) q c) :
    Calls Try.prog 13 #[.slice (some ⟨b, off + q, none⟩) (n - q) (n - q), .bool false, .slice a2 n2 c2, .slice a3 n3 c3] w fun e w' => e = .returned (.tuple #[.bool true, .slice (some ⟨b, off + s.vb, none⟩) (n - s.vb) (n - s.vb), .slice a2 n2 c2, .slice (some ⟨b, off + s.va, none⟩) (s.vb - s.va) (n - s.va)]) ∧ Below w.heap.size w w' := by
  obtain ⟨⟨i, hs, hif, hval, _, hfol⟩, _⟩ := hi
  simp only [Bool.false_eq_true, if_false] at hif
  obtain ⟨_, _, rfl⟩ := hif
  refine zzNext_of _ _ _ _ _ _ _ _ _ _ _ _ _ _ _ _ _ _ _ _ w fun W hcur hbel => ?_
  refine (next_arr w.heap.size b off n q s.va s.vb t _ _ W (ht.below hbel (fun _ => hb)) hn hb hcur hs hval hfol).mono ?_
  rintro e w' ⟨rfl, hat⟩
  exact ⟨rfl, hat.cur, hat.bel⟩

theorem zzNext_obj (b off n q c : Nat) (t : List Int) (a2 a3 : Option Addr) (n2 c2 n3 c3 : Nat) (w : World) (ht : Txt w (some ⟨b, off, none⟩) b off n t) (hn : n ≤ 65536) (hb : b < w.heap.size) (s : Pl.Span) (ss : List Pl.Span) (hi : Pl.Items t true (s :: ss) q c) :
    Calls Try.prog 13 #[.slice (some ⟨b, off + q, none⟩) (n - q) (n - q), .bool true, .slice a2 n2 c2, .slice a3 n3 c3] w fun e w' => e = .returned (.tuple #[.bool true, .slice (some ⟨b, off + s.vb, none⟩) (n - s.vb) (n - s.vb), .slice (some ⟨b, off + s.na, none⟩) (s.nb - s.na) (n - s.na), .slice (some ⟨b, off + s.va, none⟩) (s.vb - s.va) (n - s.va)]) ∧ Below w.heap.size w w' := by
  obtain ⟨⟨i, hs, hif, hval, _, hfol⟩, _⟩ := hi
  simp only [if_true] at hif
  obtain ⟨rfl, hx, hsk, j, hw3, _, hw4⟩ := hif
  refine zzNext_of _ _ _ _ _ _ _ _ _ _ _ _ _ _ _ _ _ _ _ _ w fun W hcur hbel => ?_
  refine (next_obj w.heap.size b off n q s.na s.nb j s.va s.vb t _ _ W (ht.below hbel (fun _ => hb)) hn hb hcur hs hx hsk hw3 hw4 hval hfol).mono ?_
  rintro e w' ⟨rfl, hat⟩
  exact ⟨rfl, hat.cur, hat.bel⟩

end Go.Proofs.Qxb6602274a
