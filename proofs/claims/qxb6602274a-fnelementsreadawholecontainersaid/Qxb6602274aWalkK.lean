/-
  The law's own walk: objects.
-/
import Derived.Test.Qxb6602274aWalkJ
import Derived.WalkSpells
namespace Go.Proofs.Qxb6602274a
open Go.RowKit

set_option maxHeartbeats 8000000 in
set_option maxRecDepth 100000 in
theorem law_obj (b off n c : Nat) (t : List Int) (w : World) (ht : Txt w (some ⟨b, off, none⟩) b off n t) (hn : n ≤ 65536) (hx0 : t[0]? = some 123) :
    Calls Try.prog 5 #[.slice (some ⟨b, off, none⟩) n c] w fun e w' => e = .returned (.bool true) ∧ Below w.heap.size w w' := by
  have q22 : ∀ (w : World) (a : Option Addr) (n c n' c' : Nat), (binOp .eql 22 (.slice a n c) (.slice none n' c')).run Try.prog w = .ok (.bool a.isNone) w := fun w a n c n' c' => Lib.run_eql_slice_nil w _ _ a n c n' c' Try.underlying22
  have q22n : ∀ (w : World) (a : Option Addr) (n c n' c' : Nat), (binOp .neq 22 (.slice a n c) (.slice none n' c')).run Try.prog w = .ok (.bool (!a.isNone)) w := fun w a n c n' c' => run_neq_slice_nil_any w _ _ a n c n' c' Try.underlying22
  obtain ⟨hn0, hc0⟩ := ht.at hx0
  have hc0' : w.cell? ⟨b, off, none⟩ = some (.int .u8 123) := hc0
  clear hc0
  have hbl : b < w.heap.size := ht.lt hn0
  have hnz : ((n : Int) == 0) = false := by simp; omega
  have hnz2 : ¬ (n : Int) > 65536 := by omega
  have HP : Hid (Calls Try.prog 16 #[.slice (some ⟨b, off, none⟩) n c, .int .i64 0, .bool true] w fun e w' => ContP t 0 n true true w e w') :=
    contObjK_any _ b off n c 0 t w ht hn hx0 hn0 (fun q w _ hT => parseValue_any _ b off n c q t w hT hn)
  have HX0 : Hid (t[0]? = some 123) := hx0
  clear hx0
  go_enter Try.func5, Try.ntmps5
  go_wp2_with fail
  refine (zzBytes_any _ _ _ _).mono ?_
  rintro e w0 ⟨rfl, r, rfl⟩
  cases r with
  | false =>
    go_wp2_with fail
    go_ret
    exact ⟨rfl, Below.refl _ _⟩
  | true =>
  go_wp2_with fail
  refine HP.out.mono ?_
  rintro e w1 ⟨hb1, v, cl, q, ok, rfl, hok⟩
  cases ok with
  | false =>
    go_wp2_with fail
    go_ret
    exact ⟨rfl, hb1⟩
  | true =>
  obtain ⟨rfl, hqn, sp, hcont, hkeep⟩ := hok rfl
  obtain ⟨hspn, hown⟩ := hkeep rfl
  obtain ⟨A, cap, g, rfl, hsp⟩ := own_spans hown
  have ht1 : Txt w1 (some ⟨b, off, none⟩) b off n t := ht.below hb1 (fun _ => hbl)
  have HCONT : Hid (Pl.Cont t true 0 sp cl) := hcont
  have HSP : Hid (Spans w1 A g sp) := hsp
  clear hok hkeep hown hcont hsp hc0' ht HP
  go_wp2_with fail
  refine (clone_any b off n c t w1 ht1 hn hn0).mono ?_
  rintro e w2 ⟨rfl, hb2, ht2⟩
  have HSP2 : Hid (Spans w2 A g sp) := HSP.out.below hb2
  have hB2 : w1.heap.size < w2.heap.size := ht2.lt hn0
  have HB2 : Hid (Below w0.heap.size w0 w2) := hb1.trans (hb2.mono hb1.size)
  clear ht1 HSP hb1 hb2
  generalize w1.heap.size = B at *
  go_wp2_with fail
  refine (zzValueLen_any _ B 0 n n (cl + 1) t w2 ht2 hn (Nat.le_refl _) HX0.out (by omega) HCONT.out.2.1).mono ?_
  rintro e w3 ⟨rfl, rfl⟩
  have hc2 : w3.cell? ⟨B, 0, none⟩ = some (.int .u8 123) := (ht2.at HX0.out).2
  have hcl1 := HCONT.out.2.1.fin_le
  have hn1 : ¬ n = 1 := by omega
  have hn1' : 1 ≤ n := by omega
  go_wp2_with fail
  have HI0 : Hid (Pl.Items t true sp 1 cl) := HCONT.out.1
  clear HCONT hc2
  go_loopg [8, 9, 10, 12] sp.length (fun gm s8 s9 s10 s12 wr => ∃ (k q : Nat) (a2 a3 : Option Addr) (n2 c2 n3 c3 : Nat), s12 = .int .i64 k ∧ k ≤ sp.length ∧ gm = sp.length - k ∧ s8 = .slice (some ⟨B, q, none⟩) (n - q) (n - q) ∧ s9 = .slice a2 n2 c2 ∧ s10 = .slice a3 n3 c3 ∧ Pl.Items t true (sp.drop k) q cl ∧ Below w3.heap.size w3 wr)
  case atStart => exact ⟨0, 1, none, none, 0, 0, 0, 0, rfl, Nat.zero_le _, rfl, by simp, rfl, rfl, HI0.out, Below.refl _ _⟩
  case round =>
    obtain ⟨k, q, a2, a3, n2, c2, n3, c3, rfl, hk, rfl, rfl, rfl, rfl, hit, hbr⟩ := hrel
    clear HI0
    have htr : Txt wr (some ⟨B, 0, none⟩) B 0 n t := ht2.below hbr (fun _ => hB2)
    have hBr : B < wr.heap.size := Nat.lt_of_lt_of_le hB2 hbr.size
    have hkz : (k : Int) ≤ (sp.length : Int) := by omega
    have HIT : Hid (Pl.Items t true (sp.drop k) q cl) := hit
    clear hit
    by_cases hlt : k < sp.length
    · obtain ⟨s, hs⟩ : ∃ s, sp[k]? = some s := ⟨_, List.getElem?_eq_getElem hlt⟩
      have hit' := HIT.out
      rw [drop_at hs] at hit'
      obtain ⟨f1, f2, ⟨x, hx, hkx⟩, f4⟩ := item_facts hit'
      rw [htr.len] at f2 f4
      have hkz2 : ((k : Int) == (sp.length : Int)) = false := by simp; omega
      have HN : Hid (Calls Try.prog 13 #[.slice (some ⟨B, q, none⟩) (n - q) (n - q), .bool true, .slice a2 n2 c2, .slice a3 n3 c3] wr fun e w' => e = .returned (.tuple #[.bool true, .slice (some ⟨B, s.vb, none⟩) (n - s.vb) (n - s.vb), .slice (some ⟨B, s.na, none⟩) (s.nb - s.na) (n - s.na), .slice (some ⟨B, s.va, none⟩) (s.vb - s.va) (n - s.va)]) ∧ Below wr.heap.size wr w') := by
        have := zzNext_obj B 0 n q cl t a2 a3 n2 c2 n3 c3 wr htr hn hBr s _ hit'
        unfold Hid
        simpa only [Nat.zero_add] using this
      have HNEXT : Hid (Pl.Items t true (sp.drop (k + 1)) s.vb cl) := hit'.2
      have HXA : Hid (t[s.va]? = some x) := hx
      clear hit' hx
      go_wp2_with fail
      refine HN.out.mono ?_
      rintro e w4 ⟨rfl, hb4⟩
      have ht4 : Txt w4 (some ⟨B, 0, none⟩) B 0 n t := htr.below hb4 (fun _ => hBr)
      have hB4 : Below w3.heap.size w3 w4 := hbr.trans (hb4.mono hbr.size)
      have hsp4 := (HSP2.out.below hbr).below hb4
      obtain ⟨rfl, hgl, p0, p1, p2, p3, p4⟩ := hsp4 k s hs
      clear HN hb4
      go_wp2_with fail
      have htA : Txt (w4.alloc (.cells #[.int .i64 s.na, .int .i64 s.nb, .int .i64 s.va, .int .i64 s.vb, .int .i64 (Pl.kindOf x)] 31)) (some ⟨B, 0, none⟩) B 0 n t := ht4.alloc _
      have hBA : Below w3.heap.size w3 (w4.alloc (.cells #[.int .i64 s.na, .int .i64 s.nb, .int .i64 s.va, .int .i64 s.vb, .int .i64 (Pl.kindOf x)] 31)) := hB4.alloc hB4.size _
      refine (same_any B s.va (s.vb - s.va) (n - s.va) (n - s.va) _ _ (htA.sub s.va (s.vb - s.va) (by omega)) (by omega)).mono ?_
      rintro e w5 ⟨rfl, m, hw5⟩
      have ht5 : Txt w5 (some ⟨B, 0, none⟩) B 0 n t := by rw [hw5]; exact htA.drewN m
      have hB5 : Below w3.heap.size w3 w5 := by rw [hw5]; exact below_drewN' hBA m
      obtain ⟨⟨g0, g1, g2, g3, g4⟩, gf, gs⟩ := five_later (by rw [hw5]; exact below_drewN' (Below.refl _ _) m : Below (w4.alloc (.cells #[.int .i64 s.na, .int .i64 s.nb, .int .i64 s.va, .int .i64 s.vb, .int .i64 (Pl.kindOf x)] 31)).heap.size (w4.alloc (.cells #[.int .i64 s.na, .int .i64 s.nb, .int .i64 s.va, .int .i64 s.vb, .int .i64 (Pl.kindOf x)] 31)) w5)
      have hcx : w5.cell? ⟨B, s.va, none⟩ = some (.int .u8 x) := by have := (ht5.at HXA.out).2; rwa [Nat.zero_add] at this
      clear hw5 htA hBA p0 p1 p2 p3 p4 ht4 hB4 hsp4 htr hbr HIT
      have hkk : 1 ≤ Pl.kindOf x ∧ Pl.kindOf x ≤ 6 := kind_range x
      have HVX : Hid (∀ m, (w5.drewN m).cell? ⟨B, s.va, none⟩ = some (.int .u8 x)) := fun m => by have := ((ht5.drewN m).at HXA.out).2; rwa [Nat.zero_add] at this
      generalize w4.heap.size = N4 at *
      have hvpos : 0 < s.vb - s.va := by omega
      go_wp2_with fail
      go_quiet (first | (go_at_call 17; refine Calls.quiet_of_same (zzJsonType_any B s.va _ _ x _ hvpos (HVX.out _))) | (go_at_call 18; refine Calls.quiet_of_same (kindName_any _ _ hkk.1 hkk.2)))
      obtain ⟨f5, f6⟩ := f4 (by trivial)
      go_wp2_with fail
      refine (same_any B s.na (s.nb - s.na) (n - s.na) (n - s.na) _ _ ((ht5.drewN _).sub s.na (s.nb - s.na) (by omega)) (by omega)).mono ?_
      rintro e w6 ⟨rfl, m6, rfl⟩
      go_wp2_with fail
      go_roundg (sp.length - (k + 1))
      case measure => go_light; omega
      case rel =>
        go_light
        exact ⟨k + 1, s.vb, _, _, _, _, _, _, by go_num, by omega, rfl, rfl, rfl, rfl, HNEXT.out, below_drewN' hB5 _⟩
    · obtain rfl : k = sp.length := by omega
      have HN : Hid (Calls Try.prog 13 #[.slice (some ⟨B, q, none⟩) (n - q) (n - q), .bool true, .slice a2 n2 c2, .slice a3 n3 c3] wr fun e w' => e = .returned (.tuple #[.bool false, .slice (some ⟨B, cl, none⟩) (n - cl) (n - cl), .slice a2 n2 c2, .slice a3 n3 c3]) ∧ Below wr.heap.size wr w') := by
        have hh := HIT.out
        rw [List.drop_length] at hh
        have := zzNext_end B 0 n q cl t true a2 a3 n2 c2 n3 c3 wr htr hn hBr hh
        unfold Hid
        simpa only [Nat.zero_add] using this
      go_wp2_with fail
      refine HN.out.mono ?_
      rintro e w4 ⟨rfl, hb4⟩
      have ht4 : Txt w4 (some ⟨B, 0, none⟩) B 0 n t := htr.below hb4 (fun _ => hBr)
      have hB4 : Below w3.heap.size w3 w4 := hbr.trans (hb4.mono hbr.size)
      have hcn1 : ¬ n = cl := by omega
      have hcn2 : cl ≤ n := by omega
      have hcn3 : (cl : Int) ≤ (n : Int) := by omega
      have HS : Hid (Calls Try.prog 14 #[.slice (some ⟨B, cl, none⟩) (n - cl) (n - cl), .slice (some ⟨B, cl, none⟩) (n - cl) (n - cl)] w4 fun e w' => e = .returned (.bool true) ∧ ∃ m, w' = w4.drewN m) := by
        have hsh := ht4.shift cl
        rw [Nat.zero_add] at hsh
        exact same_any B cl (n - cl) (n - cl) (n - cl) (t.drop cl) w4 hsh (by omega)
      clear HN
      go_wp2_with (go_at_call 14; refine HS.out.mono ?_; rintro e w5 ⟨rfl, m, rfl⟩)
      go_ret
      exact ⟨rfl, below_drewN' (HB2.out.trans (hB4.mono HB2.out.size)) _⟩

end Go.Proofs.Qxb6602274a
