/-
  The model: zzLettersModel fills the answer from its end.
-/
import Derived.Test.Qxb6602457aWalkC
import Derived.Laws.IdiomStrings
namespace Go.Proofs.Qxb6602457a
open Go.RowKit

theorem len_take (S : Nat → Bool) (g : Nat → ByteArray) {k : Nat} (h : S k = true) : (catL S g (k + 1)).length = (catL S g k).length + (g k).size := by
  simp only [catL, h, if_true, List.length_append]
  have : (g k).data.toList.length = (g k).size := Array.length_toList
  omega
theorem len_skip (S : Nat → Bool) (g : Nat → ByteArray) {k : Nat} (h : S k = false) : (catL S g (k + 1)).length = (catL S g k).length := by
  rw [catL_skip S g h]
theorem cat_get (S : Nat → Bool) (g : Nat → ByteArray) {k n p : Nat} (h : k ≤ n) (hp : p < (catL S g k).length) : (catL S g n)[p]? = (catL S g k)[p]? := by
  induction n with
  | zero => have : k = 0 := by omega
            subst this; rfl
  | succ n ih =>
    by_cases e : k = n + 1
    · subst e; rfl
    · have h1 := ih (by omega)
      have h2 : p < (catL S g n).length := by
        rcases Nat.lt_or_ge p (catL S g n).length with h' | h'
        · exact h'
        · rw [List.getElem?_eq_none h'] at h1
          rw [List.getElem?_eq_getElem hp] at h1
          cases h1
      simp only [catL]
      rw [List.getElem?_append_left h2]
      exact h1
theorem cat_at (S : Nat → Bool) (g : Nat → ByteArray) {k n j : Nat} (h : k < n) (hs : S k = true) (hj : j < (g k).size) : (catL S g n).getD ((catL S g k).length + j) 0 = (g k)[j] := by
  have h1 : (catL S g n)[(catL S g k).length + j]? = (catL S g (k + 1))[(catL S g k).length + j]? := cat_get S g h (by rw [len_take S g hs]; omega)
  rw [List.getD_eq_getElem?_getD, h1]
  simp only [catL, hs, if_true]
  rw [List.getElem?_append_right (by omega)]
  have hj' : j < (g k).data.size := hj
  have : (catL S g k).length + j - (catL S g k).length = j := by omega
  rw [this, Array.getElem?_toList, Array.getElem?_eq_getElem hj']
  rfl
theorem len_mono (S : Nat → Bool) (g : Nat → ByteArray) {k n : Nat} (h : k ≤ n) : (catL S g k).length ≤ (catL S g n).length := by
  induction n with
  | zero => have : k = 0 := by omega
            subst this; exact Nat.le_refl _
  | succ n ih =>
    by_cases e : k = n + 1
    · subst e; exact Nat.le_refl _
    · have := ih (by omega); simp only [catL, List.length_append]; omega

/-- Byte p of the answer, as a cell. -/
def byteV (l : List UInt8) (p : Nat) : Value := .int .u8 ((l.getD p 0).toNat : Int)

set_option maxHeartbeats 2000000 in
set_option maxRecDepth 100000 in
theorem model_any (z : Int) (a1 : Option Addr) (b1 o1 c1 : Nat) (a2 : Option Addr) (b2 o2 c2 n : Nat) (f : Nat → Int) (g : Nat → ByteArray) (w : World) (h1 : Rw w a1 b1 o1 n (ints f)) (h2 : Rw w a2 b2 o2 n (strs g)) (hn : n ≤ 65536) (hsum : sumL g n ≤ 1048576) :
    Calls Try.prog 18 #[.int .i64 z, .slice a1 n c1, .slice a2 n c2] w fun e w' => e = .returned (.string ⟨(catL (sel z f) g n).toArray⟩) ∧ Below w.heap.size w w' := by
  obtain ⟨T, hT⟩ : ∃ T, T = (catL (sel z f) g n).length := ⟨_, rfl⟩
  have hTm : T ≤ 1048576 := by have := catL_le (sel z f) g n; omega
  have HT : Hid (T = (catL (sel z f) g n).length) := hT
  clear hT hsum
  have hmk := run_make_row' (P := Try.prog) 22 5 (.int .u8 0) 1 Try.underlying22 infoB rfl .i64 .i64 T (by omega) (by omega)
  have HMK : Hid (∀ w, (Instr.makeSlice 22 (.int .i64 (T : Int)) (.int .i64 (T : Int))).run Try.prog w = .ok (.slice (some ⟨w.heap.size, 0, none⟩) T T) (w.alloc (.cells (madeCells #[.int .u8 0] T) 5))) := hmk
  clear hmk
  go_enter Try.func18, Try.ntmps18
  go_wp2_with fail
  go_loopg [7, 8] n (fun gm s7 s8 wr => w = wr ∧ ∃ k m : Nat, s8 = .int .i64 k ∧ gm = n - k ∧ k ≤ n ∧ s7 = .int .i64 m ∧ m = (catL (sel z f) g k).length)
  case atStart => exact ⟨rfl, 0, 0, rfl, rfl, Nat.zero_le _, rfl, rfl⟩
  case round =>
    obtain ⟨rfl, k, m, rfl, rfl, hk, rfl, hm⟩ := hrel
    have hmT : m ≤ T := by rw [hm, HT.out]; exact len_mono _ _ hk
    have HM : Hid (m = (catL (sel z f) g k).length) := hm
    clear hm
    by_cases hlt : k < n
    · have hkz : (k : Int) < (n : Int) := by omega
      obtain rfl := h1.addr (by omega)
      obtain rfl := h2.addr (by omega)
      have d1 := h1.cell k hlt
      have d2 := h2.cell k hlt
      unfold ints at d1
      unfold strs at d2
      have hm1 : (catL (sel z f) g (k + 1)).length ≤ T := by rw [HT.out]; exact len_mono _ _ hlt
      cases hsel : sel z f k with
      | true =>
        have hsel' : (bits BinOp.and IntKind.i64 z (f k) != 0) = true := hsel
        have HSEL : Hid (sel z f k = true) := hsel
        rw [len_take _ _ hsel, ← HM.out] at hm1
        clear hsel
        go_wp2_with fail
        go_roundg (n - (k + 1))
        case measure => go_light; omega
        case rel => go_light; exact ⟨rfl, k + 1, m + (g k).size, by go_num, rfl, by omega, by go_num, by rw [len_take _ _ HSEL.out, ← HM.out]⟩
      | false =>
        have hsel' : (bits BinOp.and IntKind.i64 z (f k) != 0) = false := hsel
        have HSEL : Hid (sel z f k = false) := hsel
        clear hsel hm1
        go_wp2_with fail
        go_roundg (n - (k + 1))
        case measure => go_light; omega
        case rel => go_light; exact ⟨rfl, k + 1, m, by go_num, rfl, by omega, rfl, by rw [len_skip _ _ HSEL.out]; exact HM.out⟩
    · have hkz : ¬ (k : Int) < (n : Int) := by omega
      obtain rfl : k = n := by omega
      obtain rfl : m = T := by rw [HM.out, HT.out]
      clear HM
      have hmk := HMK.out
      clear HMK
      go_wp2_with fail
      clear hmk
      go_loopg [10, 11] k (fun gm s10 s11 wq => ∃ (i : Int) (q E : Nat), s11 = .int .i64 i ∧ i = (q : Int) - 1 ∧ q = gm ∧ q ≤ k ∧ s10 = .int .i64 E ∧ E = (catL (sel z f) g q).length ∧ w.Since w.heap.size wq ∧ wq.rowIs w.heap.size 5 m (fun p => if E ≤ p then byteV (catL (sel z f) g k) p else .int .u8 0))
      case atStart => exact ⟨_, k, m, by go_num, rfl, rfl, Nat.le_refl _, rfl, HT.out, (World.Since.refl _ _).alloc (Nat.le_refl _) _, (World.rowIs_made w _ m 5).congr (fun p hp => by rw [if_neg (by omega)])⟩
      case round =>
        obtain ⟨i, q, E, rfl, hi, rfl, hq, rfl, hE, hS, hrow⟩ := hrel
        have HE : Hid (E = (catL (sel z f) g q).length) := hE
        clear hE
        cases q with
        | zero =>
          obtain rfl : i = -1 := by omega
          clear hi
          obtain rfl : E = 0 := by rw [HE.out]; rfl
          have hconv := run_convert_bytes_back (P := Try.prog) wr 22 9 5 ⟨w.heap.size, 0, none⟩ m (catL (sel z f) g k) Try.underlying22 Try.underlying5 Try.underlying9 (fun j hj => by
            rw [Addr.add_lit, Nat.zero_add, hrow.cell (by rw [HT.out]; exact hj), if_pos (Nat.zero_le _)]
            simp [byteV, hj])
          rw [← HT.out] at hconv
          go_wp2_with fail
          go_ret
          exact ⟨rfl, since_below hS⟩
        | succ q =>
          obtain rfl : i = (q : Int) := by omega
          clear hi
          obtain rfl := h1.addr (by omega)
          obtain rfl := h2.addr (by omega)
          have hb1 := h1.lt (by omega)
          have hb2 := h2.lt (by omega)
          have d1 : wr.cell? ⟨b1, o1 + q, none⟩ = some (.int .i64 (f q)) := by rw [hS.cell (a := ⟨b1, o1 + q, none⟩) hb1]; exact h1.cell q (by omega)
          have d2 : wr.cell? ⟨b2, o2 + q, none⟩ = some (.string (g q)) := by rw [hS.cell (a := ⟨b2, o2 + q, none⟩) hb2]; exact h2.cell q (by omega)
          have hqz : (q : Int) ≥ 0 := by omega
          have hqk : (q : Int) < (k : Int) := by omega
          cases hsel : sel z f q with
          | false =>
            have hsel' : (bits BinOp.and IntKind.i64 z (f q) != 0) = false := hsel
            have HSEL : Hid (sel z f q = false) := hsel
            clear hsel
            go_wp2_with fail
            go_roundg q
            case measure => go_light; omega
            case rel => go_light; exact ⟨_, q, E, by go_num, rfl, rfl, by omega, rfl, by rw [← len_skip _ _ HSEL.out]; exact HE.out, hS, hrow⟩
          | true =>
            have hsel' : (bits BinOp.and IntKind.i64 z (f q) != 0) = true := hsel
            have HSEL : Hid (sel z f q = true) := hsel
            obtain ⟨D, hD⟩ : ∃ D, D = (catL (sel z f) g q).length := ⟨_, rfl⟩
            have hED : E = D + (g q).size := by rw [HE.out, len_take _ _ hsel, hD]
            have hEm : E ≤ m := by rw [HE.out, HT.out]; exact len_mono _ _ hq
            have HD : Hid (D = (catL (sel z f) g q).length) := hD
            have HAT : Hid (∀ j (hj : j < (g q).size), (catL (sel z f) g k).getD (D + j) 0 = (g q)[j]) := fun j hj => by rw [hD]; exact cat_at _ _ (by omega) hsel hj
            clear hsel hD
            have hDz : (E : Int) - ((g q).size : Int) = (D : Int) := by omega
            have h2q := h2.cell q (by omega)
            unfold strs at h2q
            generalize g q = s at *
            go_wp2_with fail
            clear d1 d2
            go_loopg [13] s.size (fun gm s13 wq => ∃ j : Nat, s13 = .int .i64 j ∧ gm = s.size - j ∧ j ≤ s.size ∧ w.Since w.heap.size wq ∧ wq.rowIs w.heap.size 5 m (fun p => if E ≤ p ∨ (D ≤ p ∧ p < D + j) then byteV (catL (sel z f) g k) p else .int .u8 0))
            case atStart => exact ⟨0, rfl, rfl, Nat.zero_le _, hS, hrow.congr (fun p hp => by
              by_cases e : E ≤ p
              · rw [if_pos e, if_pos (.inl e)]
              · rw [if_neg e, if_neg (by omega)])⟩
            case round =>
              clear hS hrow
              obtain ⟨j, rfl, rfl, hj, hS, hrow⟩ := hrel
              have d2 : wr.cell? ⟨b2, o2 + q, none⟩ = some (.string s) := by rw [hS.cell (a := ⟨b2, o2 + q, none⟩) hb2]; exact h2q
              by_cases hjl : j < s.size
              · have hjz : (j : Int) < (s.size : Int) := by omega
                have hDj : (D : Int) + (j : Int) < (m : Int) := by omega
                have g1 : wr.cell? ⟨w.heap.size, D + j, none⟩ = some (.int .u8 0) := by rw [hrow.cell (by omega), if_neg (by omega)]
                have g2 : wr.frozen? ⟨w.heap.size, D + j, none⟩ = false := hrow.frozen _
                go_wp2_with fail
                go_roundg (s.size - (j + 1))
                case measure => go_light; omega
                case rel =>
                  go_light
                  refine ⟨j + 1, by go_num, rfl, by omega, hS.setCell (Nat.le_refl _) _, (hrow.set (D + j) _).congr (fun p hp => ?_)⟩
                  by_cases e : p = D + j
                  · subst e
                    rw [if_pos rfl, if_pos (by omega)]
                    unfold byteV
                    rw [HAT.out j hjl]
                  · rw [if_neg e]
                    by_cases e2 : E ≤ p ∨ (D ≤ p ∧ p < D + j)
                    · rw [if_pos e2, if_pos (by omega)]
                    · rw [if_neg e2, if_neg (by omega)]
              · have hjz : ¬ (j : Int) < (s.size : Int) := by omega
                obtain rfl : j = s.size := by omega
                go_wp2_with fail
                go_roundg q
                case measure => go_light; omega
                case rel => go_light; exact ⟨_, q, D, by go_num, rfl, rfl, by omega, rfl, HD.out, hS, hrow.congr (fun p hp => by
                  by_cases e : D ≤ p
                  · rw [if_pos e, if_pos (by omega)]
                  · rw [if_neg e, if_neg (by omega)])⟩

end Go.Proofs.Qxb6602457a
