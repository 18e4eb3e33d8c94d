/-
  Containers: mParseContainer, where nothing is kept.
-/
import Derived.Test.Qxb6602274aWalkC
namespace Go.Proofs.Qxb6602274a
open Go.RowKit

theorem results_tmp4 {fn : Func} {t u v x : Tmp} (h : fn.results = #[.tmp t, .tmp u, .tmp v, .tmp x]) (tmps : Array Value) (P : Program) (w : World) :
    (results fn tmps).run P w = .ok (.tuple #[tmps.getD t undef, tmps.getD u undef, tmps.getD v undef, tmps.getD x undef]) w := by
  simp [results, h]

theorem ws_le {t : List Int} {q q1 : Nat} (h : Pl.Ws t q q1) (hq : q ≤ t.length) : q1 ≤ t.length := by
  rcases Nat.eq_or_lt_of_le h.le with e | e
  · omega
  · obtain ⟨c, hc, _⟩ := h.all (q1 - 1) (by omega) (by omega)
    have := (List.getElem?_eq_some_iff.1 hc).1
    omega

theorem Txt.below {w w' : World} {a : Option Addr} {b off n B : Nat} {t : List Int} (h : Txt w a b off n t) (hb : Below B w w') (hB : 0 < n → b < B) : Txt w' a b off n t :=
  ⟨h.len, h.addr, fun i hi => by rw [hb.cell (p := ⟨b, off + i, none⟩) (hB (by omega))]; exact h.cell i hi, h.byte⟩
theorem Txt.lt {w : World} {a : Option Addr} {b off n : Nat} {t : List Int} (h : Txt w a b off n t) (hn : 0 < n) : b < w.heap.size :=
  World.block_lt_of_cell? _ _ (h.cell 0 hn)
theorem Txt.alloc {w : World} {a : Option Addr} {b off n : Nat} {t : List Int} (h : Txt w a b off n t) (o : Obj) : Txt (w.alloc o) a b off n t :=
  h.below ((Below.refl w.heap.size w).alloc (Nat.le_refl _) o) h.lt

/-- A struct of five numbers in a block of its own, read in a later world. -/
theorem five_later {wr w1 : World} {x0 x1 x2 x3 x4 : Value} (hb : Below (wr.alloc (.cells #[x0, x1, x2, x3, x4] 31)).heap.size (wr.alloc (.cells #[x0, x1, x2, x3, x4] 31)) w1) :
    (w1.cell? ⟨wr.heap.size, 0, none⟩ = some x0 ∧ w1.cell? ⟨wr.heap.size, 1, none⟩ = some x1 ∧ w1.cell? ⟨wr.heap.size, 2, none⟩ = some x2 ∧ w1.cell? ⟨wr.heap.size, 3, none⟩ = some x3 ∧ w1.cell? ⟨wr.heap.size, 4, none⟩ = some x4) ∧
    (∀ i, w1.frozen? ⟨wr.heap.size, i, none⟩ = false) ∧ wr.heap.size < w1.heap.size := by
  have h : ∀ i, w1.cell? ⟨wr.heap.size, i, none⟩ = (wr.alloc (.cells #[x0, x1, x2, x3, x4] 31)).cell? ⟨wr.heap.size, i, none⟩ := fun i => hb.cell (p := ⟨wr.heap.size, i, none⟩) (by simp)
  refine ⟨⟨?_, ?_, ?_, ?_, ?_⟩, fun i => ?_, ?_⟩
  · rw [h]; simp
  · rw [h]; simp
  · rw [h]; simp
  · rw [h]; simp
  · rw [h]; simp
  · rw [hb.frozen (p := ⟨wr.heap.size, i, none⟩) (by simp)]; simp
  · have := hb.size; simp at this; omega

set_option maxHeartbeats 8000000 in
set_option maxRecDepth 100000 in
theorem contArr_any (a : Option Addr) (b off n c p : Nat) (t : List Int) (w : World) (ht : Txt w a b off n t) (hn : n ≤ 65536) (hx : t[p]? = some 91) (hpn : p < n)
    (hV : ∀ (q : Nat) (w : World), p < q → Txt w a b off n t → Calls Try.prog 7 #[.slice a n c, .int .i64 q] w fun e w' => ValP t q w e w') :
    Calls Try.prog 16 #[.slice a n c, .int .i64 p, .bool false] w fun e w' => ContP t p n false false w e w' := by
  obtain rfl := ht.addr (by omega)
  have HV : Hid _ := hV
  have HX : Hid _ := hx
  clear hV hx
  have hcp : w.cell? ⟨b, off + p, none⟩ = some (.int .u8 91) := by
    rw [ht.cell p hpn]
    have := ht.get hpn
    rw [HX.out] at this
    rw [← Option.some.inj this]
  have hpz : (p : Int) < (n : Int) := by omega
  have hbl : 0 < n → b < w.heap.size := ht.lt

  go_enter Try.func16, Try.ntmps16
  go_wp2_with fail
  refine (skipWS_any _ b off n c (p + 1) _ t _ ht (by omega) (by omega) hn).mono ?_
  rintro e w' ⟨rfl, i0, rfl, hws⟩
  have hi0 : i0 ≤ n := by have := ws_le hws (by rw [ht.len]; omega); rw [ht.len] at this; exact this
  have hp0 := hws.le
  have HWS : Hid _ := hws
  clear hws
  by_cases hl0 : i0 < n
  · have hz0' : (i0 : Int) < (n : Int) := by omega
    have hni0 : ¬ n ≤ i0 := by omega
    obtain ⟨y, hx⟩ : ∃ x, x = t.getD (i0) 0 := ⟨_, rfl⟩
    have HCy : Hid (∀ W, Txt W (some ⟨b, off, none⟩) b off n t → W.cell? ⟨b, off + i0, none⟩ = some (.int .u8 y)) := by intro W hW; rw [hx]; exact hW.cell (i0) (by omega)
    have hcy := HCy.out _ (ht)
    have HGy : Hid (t[i0]? = some y) := by rw [hx]; exact ht.get (by omega)
    clear hx
    by_cases hcl : y = 93
    · subst hcl
      go_wp2_with fail
      refine bodyPost_ret (results_tmp4 rfl _ _ _) rfl ?_
      exact ⟨Below.refl _ _, _, i0, i0 + 1, true, by simp, fun _ => ⟨rfl, by omega, [], Pl.cont_empty HWS.out HGy.out (by omega), fun _ => ⟨by simp, World.ownsRow_nil _ _ _ _⟩⟩⟩
    have ecl : (y == 93) = false := by simp [hcl]
    clear hcy
    have hcy := HCy.out _ ht
    go_wp2_with fail
    clear hcy HCy hcp
    go_loopg [12, 13] (n - i0) (fun g s12 v wr => ∃ (i : Nat) (sp : List Pl.Span), s12 = .int .i64 i ∧ g = n - i ∧ p < i ∧ i ≤ n ∧ Pl.Pre t false p sp i ∧ v = .slice none 0 0 ∧ Below w'.heap.size w' wr)
    case atStart => exact ⟨i0, [], rfl, rfl, by omega, hi0, Pl.pre_start HWS.out, rfl, Below.refl _ _⟩
    case round =>
      obtain ⟨i, sp, rfl, rfl, hpi, hin, hpre, rfl, hbr⟩ := hrel
      have HPRE : Hid (Pl.Pre t false p sp i) := hpre
      clear hpre
      by_cases hlt : i < n
      · have hiz : (i : Int) < (n : Int) := by omega
        have htr : Txt wr (some ⟨b, off, none⟩) b off n t := ht.below hbr hbl
        have htA : ∀ o, Txt (wr.alloc o) (some ⟨b, off, none⟩) b off n t := fun o => htr.alloc o
        have HTA : Hid _ := htA
        clear htA
        go_wp2_with fail
        refine (HV.out i _ (by omega) (HTA.out _)).mono ?_
        rintro e w1 ⟨hb1, vb, kd, ok, rfl, hval⟩
        have hfive := five_later hb1
        obtain ⟨⟨g0, g1, g2, g3, g4⟩, gf, gs⟩ := hfive
        have hbw : Below w'.heap.size w' w1 := (hbr.alloc hbr.size _).trans (hb1.mono (by have := hbr.size; simp; omega))
        have htw : Txt w1 (some ⟨b, off, none⟩) b off n t := ht.below hbw hbl

        clear hb1
        cases ok with
        | false =>
          go_wp2_with fail
          refine bodyPost_ret (results_tmp4 rfl _ _ _) rfl ?_
          exact ⟨hbw, _, 0, 0, false, rfl, by simp⟩
        | true =>
          have hvp := hval rfl
          have hitem := Pl.item_arr hvp
          have hvb := hvp.1.2.1
          have hvb0 := hvp.1.1
          rw [ht.len] at hvb
          have HI : Hid (Pl.Item0 t false i ⟨0, 0, i, vb, kd⟩) := hitem
          clear hval hvp hitem
          go_wp2_with fail
          have hbS : ∀ x y z, Below w'.heap.size w' (((w1.setCell ⟨wr.heap.size, 2, none⟩ x).setCell ⟨wr.heap.size, 3, none⟩ y).setCell ⟨wr.heap.size, 4, none⟩ z) := fun x y z => ((hbw.setCell (p := ⟨wr.heap.size, 2, none⟩) hbr.size _).setCell (p := ⟨wr.heap.size, 3, none⟩) hbr.size _).setCell (p := ⟨wr.heap.size, 4, none⟩) hbr.size _
          have HBS : Hid _ := hbS
          clear hbS g0 g1 g2 g3 g4 gf
          refine (skipWS_any _ b off n c vb _ t _ (by exact ht.below (HBS.out _ _ _) hbl) rfl (by omega) hn).mono ?_
          rintro e wq ⟨rfl, j3, rfl, hw3⟩
          have hj3 : j3 ≤ n := by have := ws_le hw3 (by rw [ht.len]; omega); rw [ht.len] at this; exact this
          have hj3' := hw3.le
          have HW3 : Hid _ := hw3
          clear hw3
          by_cases hl3 : j3 < n
          · have hz3 : (j3 : Int) < (n : Int) := by omega
            have hn3 : ¬ n ≤ j3 := by omega
            obtain ⟨u3, hx⟩ : ∃ x, x = t.getD (j3) 0 := ⟨_, rfl⟩
            have HCu3 : Hid (∀ W, Txt W (some ⟨b, off, none⟩) b off n t → W.cell? ⟨b, off + j3, none⟩ = some (.int .u8 u3)) := by intro W hW; rw [hx]; exact hW.cell (j3) (by omega)
            have hcu3 := fun x y z => HCu3.out _ (ht.below (HBS.out x y z) hbl)
            have HGu3 : Hid (t[j3]? = some u3) := by rw [hx]; exact ht.get (by omega)
            clear hx
            by_cases hcl3 : u3 = 93
            · subst hcl3
              go_wp2_with fail
              refine bodyPost_ret (results_tmp4 rfl _ _ _) rfl ?_
              exact ⟨HBS.out _ _ _, .slice none 0 0, j3, j3 + 1, true, by simp, fun _ => ⟨rfl, by omega, sp ++ [⟨0, 0, i, vb, kd⟩], Pl.cont_done HPRE.out HI.out HW3.out HGu3.out (by omega), by simp⟩⟩
            have ecl3 : (u3 == 93) = false := by simp [hcl3]
            by_cases h44 : u3 = 44
            · subst h44
              go_wp2_with fail
              refine (skipWS_any _ b off n c (j3 + 1) _ t _ (by exact ht.below (HBS.out _ _ _) hbl) (by omega) (by omega) hn).mono ?_
              rintro e wq ⟨rfl, i', rfl, hw4⟩
              have hi' : i' ≤ n := by have := ws_le hw4 (by rw [ht.len]; omega); rw [ht.len] at this; exact this
              have hi'' := hw4.le
              have HW4 : Hid _ := hw4
              clear hw4
              go_wp2_with fail
              go_roundg (n - i')
              case measure => go_light; omega
              case rel => go_light; exact ⟨i', sp ++ [⟨0, 0, i, vb, kd⟩], rfl, rfl, by omega, hi', Pl.pre_more HPRE.out HI.out HW3.out HGu3.out HW4.out, rfl, HBS.out _ _ _⟩
            have e44 : (u3 != 44) = true := by simp [h44]
            go_wp2_with fail
            refine bodyPost_ret (results_tmp4 rfl _ _ _) rfl ?_
            exact ⟨HBS.out _ _ _, _, 0, 0, false, rfl, by simp⟩
          · have hz3 : ¬ (j3 : Int) < (n : Int) := by omega
            go_wp2_with fail
            refine bodyPost_ret (results_tmp4 rfl _ _ _) rfl ?_
            exact ⟨HBS.out _ _ _, _, 0, 0, false, rfl, by simp⟩
      · have hiz : ¬ (i : Int) < (n : Int) := by omega
        go_wp2_with fail
        refine bodyPost_ret (results_tmp4 rfl _ _ _) rfl ?_
        exact ⟨hbr, _, 0, 0, false, rfl, by simp⟩
  · have hz0' : ¬ (i0 : Int) < (n : Int) := by omega
    go_wp2_with fail
    refine wp_loop_rounds 1 ?_
    rw [rounds_succ]
    go_wp2_with fail
    refine bodyPost_ret (results_tmp4 rfl _ _ _) rfl ?_
    exact ⟨Below.refl _ _, _, 0, 0, false, rfl, by simp⟩

set_option maxHeartbeats 8000000 in
set_option maxRecDepth 100000 in
theorem contObj_any (a : Option Addr) (b off n c p : Nat) (t : List Int) (w : World) (ht : Txt w a b off n t) (hn : n ≤ 65536) (hx : t[p]? = some 123) (hpn : p < n)
    (hV : ∀ (q : Nat) (w : World), p < q → Txt w a b off n t → Calls Try.prog 7 #[.slice a n c, .int .i64 q] w fun e w' => ValP t q w e w') :
    Calls Try.prog 16 #[.slice a n c, .int .i64 p, .bool false] w fun e w' => ContP t p n true false w e w' := by
  obtain rfl := ht.addr (by omega)
  have HV : Hid _ := hV
  have HX : Hid _ := hx
  clear hV hx
  have hcp : w.cell? ⟨b, off + p, none⟩ = some (.int .u8 123) := by
    rw [ht.cell p hpn]
    have := ht.get hpn
    rw [HX.out] at this
    rw [← Option.some.inj this]
  have hpz : (p : Int) < (n : Int) := by omega
  have hbl : 0 < n → b < w.heap.size := ht.lt

  go_enter Try.func16, Try.ntmps16
  go_wp2_with fail
  refine (skipWS_any _ b off n c (p + 1) _ t _ ht (by omega) (by omega) hn).mono ?_
  rintro e w' ⟨rfl, i0, rfl, hws⟩
  have hi0 : i0 ≤ n := by have := ws_le hws (by rw [ht.len]; omega); rw [ht.len] at this; exact this
  have hp0 := hws.le
  have HWS : Hid _ := hws
  clear hws
  by_cases hl0 : i0 < n
  · have hz0' : (i0 : Int) < (n : Int) := by omega
    have hni0 : ¬ n ≤ i0 := by omega
    obtain ⟨y, hx⟩ : ∃ x, x = t.getD (i0) 0 := ⟨_, rfl⟩
    have HCy : Hid (∀ W, Txt W (some ⟨b, off, none⟩) b off n t → W.cell? ⟨b, off + i0, none⟩ = some (.int .u8 y)) := by intro W hW; rw [hx]; exact hW.cell (i0) (by omega)
    have hcy := HCy.out _ (ht)
    have HGy : Hid (t[i0]? = some y) := by rw [hx]; exact ht.get (by omega)
    clear hx
    by_cases hcl : y = 125
    · subst hcl
      go_wp2_with fail
      refine bodyPost_ret (results_tmp4 rfl _ _ _) rfl ?_
      exact ⟨Below.refl _ _, _, i0, i0 + 1, true, by simp, fun _ => ⟨rfl, by omega, [], Pl.cont_empty HWS.out HGy.out (by omega), fun _ => ⟨by simp, World.ownsRow_nil _ _ _ _⟩⟩⟩
    have ecl : (y == 125) = false := by simp [hcl]
    clear hcy
    have hcy := HCy.out _ ht
    go_wp2_with fail
    clear hcy HCy hcp
    go_loopg [12, 13] (n - i0) (fun g s12 v wr => ∃ (i : Nat) (sp : List Pl.Span), s12 = .int .i64 i ∧ g = n - i ∧ p < i ∧ i ≤ n ∧ Pl.Pre t true p sp i ∧ v = .slice none 0 0 ∧ Below w'.heap.size w' wr)
    case atStart => exact ⟨i0, [], rfl, rfl, by omega, hi0, Pl.pre_start HWS.out, rfl, Below.refl _ _⟩
    case round =>
      obtain ⟨i, sp, rfl, rfl, hpi, hin, hpre, rfl, hbr⟩ := hrel
      have HPRE : Hid (Pl.Pre t true p sp i) := hpre
      clear hpre
      by_cases hlt : i < n
      · have hiz : (i : Int) < (n : Int) := by omega
        have htr : Txt wr (some ⟨b, off, none⟩) b off n t := ht.below hbr hbl
        have htA : ∀ o, Txt (wr.alloc o) (some ⟨b, off, none⟩) b off n t := fun o => htr.alloc o
        have HTA : Hid _ := htA
        clear htA
        go_wp2_with fail
        refine (parseString_any _ b off n c i t _ (HTA.out _) hn).mono ?_
        rintro e wq ⟨rfl, nb, okN, rfl, hstr⟩
        cases okN with
        | false =>
          go_wp2_with fail
          refine bodyPost_ret (results_tmp4 rfl _ _ _) rfl ?_
          exact ⟨hbr.alloc hbr.size _, _, 0, 0, false, rfl, by simp⟩
        | true =>
          obtain ⟨hs1, hs2⟩ := hstr rfl
          clear hstr
          have hnb := hs2.lt
          rw [ht.len] at hnb
          have HS1 : Hid _ := hs1
          have HS2 : Hid _ := hs2
          clear hs1 hs2
          go_wp2_with fail
          refine (skipWS_any _ b off n c nb _ t _ (HTA.out _) rfl (by omega) hn).mono ?_
          rintro e wq ⟨rfl, j, rfl, hwj⟩
          have hjn : j ≤ n := by have := ws_le hwj (by rw [ht.len]; omega); rw [ht.len] at this; exact this
          have HWJ : Hid _ := hwj
          have hnj := hwj.le
          clear hwj
          by_cases hjl : j < n
          · have hjz : (j : Int) < (n : Int) := by omega
            have hnjj : ¬ n ≤ j := by omega
            obtain ⟨u, hx⟩ : ∃ x, x = t.getD (j) 0 := ⟨_, rfl⟩
            have HCu : Hid (∀ W, Txt W (some ⟨b, off, none⟩) b off n t → W.cell? ⟨b, off + j, none⟩ = some (.int .u8 u)) := by intro W hW; rw [hx]; exact hW.cell (j) (by omega)
            have hcu : ∀ o, (wr.alloc o).cell? ⟨b, off + j, none⟩ = some (.int .u8 u) := fun o => HCu.out _ (HTA.out o)
            have HGu : Hid (t[j]? = some u) := by rw [hx]; exact ht.get (by omega)
            clear hx
            by_cases h58 : u = 58
            · subst h58
              go_wp2_with fail
              refine (skipWS_any _ b off n c (j + 1) _ t _ (HTA.out _) (by omega) (by omega) hn).mono ?_
              rintro e wq ⟨rfl, va, rfl, hwv⟩
              have hva : va ≤ n := by have := ws_le hwv (by rw [ht.len]; omega); rw [ht.len] at this; exact this
              have HWV : Hid _ := hwv
              have hjv := hwv.le
              clear hwv hcu HCu
              go_wp2_with fail
              refine (HV.out va _ (by omega) (HTA.out _)).mono ?_
              rintro e w1 ⟨hb1, vb, kd, ok, rfl, hval⟩
              have hfive := five_later hb1
              obtain ⟨⟨g0, g1, g2, g3, g4⟩, gf, gs⟩ := hfive
              have hbw : Below w'.heap.size w' w1 := (hbr.alloc hbr.size _).trans (hb1.mono (by have := hbr.size; simp; omega))
              have htw : Txt w1 (some ⟨b, off, none⟩) b off n t := ht.below hbw hbl

              clear hb1
              cases ok with
              | false =>
                go_wp2_with fail
                refine bodyPost_ret (results_tmp4 rfl _ _ _) rfl ?_
                exact ⟨hbw, _, 0, 0, false, rfl, by simp⟩
              | true =>
                have hvp := hval rfl
                have hitem := Pl.item_obj HS1.out HS2.out HWJ.out HGu.out HWV.out hvp
                have hvb := hvp.1.2.1
                have hvb0 := hvp.1.1
                rw [ht.len] at hvb
                have HI : Hid (Pl.Item0 t true i ⟨i, nb, va, vb, kd⟩) := hitem
                clear hval hvp hitem
                go_wp2_with fail
                have hbS : ∀ x y z, Below w'.heap.size w' (((w1.setCell ⟨wr.heap.size, 2, none⟩ x).setCell ⟨wr.heap.size, 3, none⟩ y).setCell ⟨wr.heap.size, 4, none⟩ z) := fun x y z => ((hbw.setCell (p := ⟨wr.heap.size, 2, none⟩) hbr.size _).setCell (p := ⟨wr.heap.size, 3, none⟩) hbr.size _).setCell (p := ⟨wr.heap.size, 4, none⟩) hbr.size _
                have HBS : Hid _ := hbS
                clear hbS g0 g1 g2 g3 g4 gf
                refine (skipWS_any _ b off n c vb _ t _ (by exact ht.below (HBS.out _ _ _) hbl) rfl (by omega) hn).mono ?_
                rintro e wq ⟨rfl, j3, rfl, hw3⟩
                have hj3 : j3 ≤ n := by have := ws_le hw3 (by rw [ht.len]; omega); rw [ht.len] at this; exact this
                have hj3' := hw3.le
                have HW3 : Hid _ := hw3
                clear hw3
                by_cases hl3 : j3 < n
                · have hz3 : (j3 : Int) < (n : Int) := by omega
                  have hn3 : ¬ n ≤ j3 := by omega
                  obtain ⟨u3, hx⟩ : ∃ x, x = t.getD (j3) 0 := ⟨_, rfl⟩
                  have HCu3 : Hid (∀ W, Txt W (some ⟨b, off, none⟩) b off n t → W.cell? ⟨b, off + j3, none⟩ = some (.int .u8 u3)) := by intro W hW; rw [hx]; exact hW.cell (j3) (by omega)
                  have hcu3 := fun x y z => HCu3.out _ (ht.below (HBS.out x y z) hbl)
                  have HGu3 : Hid (t[j3]? = some u3) := by rw [hx]; exact ht.get (by omega)
                  clear hx
                  by_cases hcl3 : u3 = 125
                  · subst hcl3
                    go_wp2_with fail
                    refine bodyPost_ret (results_tmp4 rfl _ _ _) rfl ?_
                    exact ⟨HBS.out _ _ _, .slice none 0 0, j3, j3 + 1, true, by simp, fun _ => ⟨rfl, by omega, sp ++ [⟨i, nb, va, vb, kd⟩], Pl.cont_done HPRE.out HI.out HW3.out HGu3.out (by omega), by simp⟩⟩
                  have ecl3 : (u3 == 125) = false := by simp [hcl3]
                  by_cases h44 : u3 = 44
                  · subst h44
                    go_wp2_with fail
                    refine (skipWS_any _ b off n c (j3 + 1) _ t _ (by exact ht.below (HBS.out _ _ _) hbl) (by omega) (by omega) hn).mono ?_
                    rintro e wq ⟨rfl, i', rfl, hw4⟩
                    have hi' : i' ≤ n := by have := ws_le hw4 (by rw [ht.len]; omega); rw [ht.len] at this; exact this
                    have hi'' := hw4.le
                    have HW4 : Hid _ := hw4
                    clear hw4
                    go_wp2_with fail
                    go_roundg (n - i')
                    case measure => go_light; omega
                    case rel => go_light; exact ⟨i', sp ++ [⟨i, nb, va, vb, kd⟩], rfl, rfl, by omega, hi', Pl.pre_more HPRE.out HI.out HW3.out HGu3.out HW4.out, rfl, HBS.out _ _ _⟩
                  have e44 : (u3 != 44) = true := by simp [h44]
                  go_wp2_with fail
                  refine bodyPost_ret (results_tmp4 rfl _ _ _) rfl ?_
                  exact ⟨HBS.out _ _ _, _, 0, 0, false, rfl, by simp⟩
                · have hz3 : ¬ (j3 : Int) < (n : Int) := by omega
                  go_wp2_with fail
                  refine bodyPost_ret (results_tmp4 rfl _ _ _) rfl ?_
                  exact ⟨HBS.out _ _ _, _, 0, 0, false, rfl, by simp⟩
            · have e58 : (u != 58) = true := by simp [h58]
              go_wp2_with fail
              refine bodyPost_ret (results_tmp4 rfl _ _ _) rfl ?_
              exact ⟨hbr.alloc hbr.size _, _, 0, 0, false, rfl, by simp⟩
          · have hjz : ¬ (j : Int) < (n : Int) := by omega
            go_wp2_with fail
            refine bodyPost_ret (results_tmp4 rfl _ _ _) rfl ?_
            exact ⟨hbr.alloc hbr.size _, _, 0, 0, false, rfl, by simp⟩
      · have hiz : ¬ (i : Int) < (n : Int) := by omega
        go_wp2_with fail
        refine bodyPost_ret (results_tmp4 rfl _ _ _) rfl ?_
        exact ⟨hbr, _, 0, 0, false, rfl, by simp⟩
  · have hz0' : ¬ (i0 : Int) < (n : Int) := by omega
    go_wp2_with fail
    refine wp_loop_rounds 1 ?_
    rw [rounds_succ]
    go_wp2_with fail
    refine bodyPost_ret (results_tmp4 rfl _ _ _) rfl ?_
    exact ⟨Below.refl _ _, _, 0, 0, false, rfl, by simp⟩

/-- A container, nothing kept: by induction on what is left of the text. -/
theorem parseContainer_any (a : Option Addr) (b off n c : Nat) (t : List Int) (hn : n ≤ 65536) (k : Nat) : ∀ (p : Nat) (w : World) (x : Int), Txt w a b off n t → t[p]? = some x → (x = 91 ∨ x = 123) → p < n → n - p ≤ k →
    Calls Try.prog 16 #[.slice a n c, .int .i64 p, .bool false] w fun e w' => ContP t p n (x == 123) false w e w' := by
  induction k with
  | zero => intro p w x _ _ _ h1 h2; omega
  | succ k ih =>
    intro p w x ht hx hxx hp hk
    have hV : ∀ (q : Nat) (w : World), p < q → Txt w a b off n t → Calls Try.prog 7 #[.slice a n c, .int .i64 q] w fun e w' => ValP t q w e w' :=
      fun q w hq htq => parseValue_of a b off n c q t w htq hn (fun y hy hyy hqn => ih q w y htq hy hyy hqn (by omega))
    rcases hxx with rfl | rfl
    · exact contArr_any a b off n c p t w ht hn hx hp hV
    · exact contObj_any a b off n c p t w ht hn hx hp hV

theorem parseValue_any (a : Option Addr) (b off n c p : Nat) (t : List Int) (w : World) (ht : Txt w a b off n t) (hn : n ≤ 65536) : Calls Try.prog 7 #[.slice a n c, .int .i64 p] w fun e w' => ValP t p w e w' :=
  parseValue_of a b off n c p t w ht hn (fun y hy hyy hqn => parseContainer_any a b off n c t hn n p w y ht hy hyy hqn (by omega))

end Go.Proofs.Qxb6602274a
