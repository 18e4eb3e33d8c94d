/-
  Containers: mParseContainer, where the members are kept.
-/
import Derived.Test.Qxb6602274aWalkD
import Derived.Deep.AppendLies
import Derived.Deep.OwnRows
namespace Go.Proofs.Qxb6602274a
open Go.RowKit

theorem Try.info31 : (Try.prog.info? 31).map (fun i => (i.zero, i.size, i.bytes)) = some (some (.agg #[.int .i64 0, .int .i64 0, .int .i64 0, .int .i64 0, .int .i64 0]), 5, 40) := by kernel_rfl

theorem news_new (w : World) (cs : Array Value) (T : TypeId) (B : Nat) (hB : w.heap.size = B) : ∀ j u, cs.toList[j]? = some u → (w.alloc (.cells cs T)).cell? ((⟨B, 0, none⟩ : Addr).add j) = some u := by
  subst hB
  exact World.news_of_block (Deep.blk_alloc_new w _)

/-- Nothing below the heap's old end has turned: a growth. -/
theorem below_grown {w w1 : World} (h : Below w.heap.size w w1) : w.grownBy w1 none := ⟨h.os, h.tape, h.output, h.size, fun k hk _ => h.block k hk⟩
/-- What is owned stays owned behind a store into another block. -/
theorem ownsRow_setFar {w : World} {base : Nat} {e : TypeId} {size : Nat} {v : Value} {n : Nat} {xs : List Value} (h : w.ownsRow base e size v n xs) {p : Addr} (hp : ∀ k, v.ownBlock = some k → k ≠ p.block) (u : Value) : (w.setCell p u).ownsRow base e size v n xs := by
  obtain ⟨h1, h2⟩ := h
  refine ⟨h1, ?_⟩
  rcases h2 with h2 | ⟨g, cap, cur, hv, hg, hh, r⟩
  · exact .inl h2
  · refine .inr ⟨g, cap, cur, hv, hg, ?_, r⟩
    rw [Below.heap_setCell _ _ _ _ (hp g (by rw [hv]; rfl))]
    exact hh

set_option maxHeartbeats 8000000 in
set_option maxRecDepth 100000 in
theorem contArrK_any (a : Option Addr) (b off n c p : Nat) (t : List Int) (w : World) (ht : Txt w a b off n t) (hn : n ≤ 65536) (hx : t[p]? = some 91) (hpn : p < n)
    (hV : ∀ (q : Nat) (w : World), p < q → Txt w a b off n t → Calls Try.prog 7 #[.slice a n c, .int .i64 q] w fun e w' => ValP t q w e w') :
    Calls Try.prog 16 #[.slice a n c, .int .i64 p, .bool true] w fun e w' => ContP t p n false true w e w' := by
  obtain rfl := ht.addr (by omega)
  have HV : Hid _ := hV
  have HX : Hid _ := hx
  clear hV hx
  have hcp : w.cell? ⟨b, off + p, none⟩ = some (.int .u8 91) := by
    rw [ht.cell p hpn]
    have := ht.get hpn
    rw [HX.out] at this
    rw [← Option.some.inj this]
  have hpz : (p : Int) < (n : Int) := by omega
  have hbl : 0 < n → b < w.heap.size := ht.lt
  obtain ⟨i5, hi5, hz0, hz1, hz2⟩ := info_parts Try.info31
  go_enter Try.func16, Try.ntmps16
  go_wp2_with fail
  refine (skipWS_any _ b off n c (p + 1) _ t _ ht (by omega) (by omega) hn).mono ?_
  rintro e w' ⟨rfl, i0, rfl, hws⟩
  have hi0 : i0 ≤ n := by have := ws_le hws (by rw [ht.len]; omega); rw [ht.len] at this; exact this
  have hp0 := hws.le
  have HWS : Hid _ := hws
  clear hws
  by_cases hl0 : i0 < n
  · have hz0' : (i0 : Int) < (n : Int) := by omega
    have hni0 : ¬ n ≤ i0 := by omega
    obtain ⟨y, hx⟩ : ∃ x, x = t.getD (i0) 0 := ⟨_, rfl⟩
    have HCy : Hid (∀ W, Txt W (some ⟨b, off, none⟩) b off n t → W.cell? ⟨b, off + i0, none⟩ = some (.int .u8 y)) := by intro W hW; rw [hx]; exact hW.cell (i0) (by omega)
    have hcy := HCy.out _ (ht)
    have HGy : Hid (t[i0]? = some y) := by rw [hx]; exact ht.get (by omega)
    clear hx
    by_cases hcl : y = 93
    · subst hcl
      go_wp2_with fail
      refine bodyPost_ret (results_tmp4 rfl _ _ _) rfl ?_
      exact ⟨Below.refl _ _, _, i0, i0 + 1, true, by simp, fun _ => ⟨rfl, by omega, [], Pl.cont_empty HWS.out HGy.out (by omega), fun _ => ⟨by simp, World.ownsRow_nil _ _ _ _⟩⟩⟩
    have ecl : (y == 93) = false := by simp [hcl]
    clear hcy
    have hcy := HCy.out _ ht
    go_wp2_with fail
    clear hcy HCy hcp
    go_loopg [12, 13] (n - i0) (fun g s12 v wr => ∃ (i : Nat) (sp : List Pl.Span), s12 = .int .i64 i ∧ g = n - i ∧ p < i ∧ i ≤ n ∧ Pl.Pre t false p sp i ∧ wr.ownsRow w'.heap.size 31 5 v sp.length (flatS sp) ∧ sp.length ≤ i ∧ Below w'.heap.size w' wr)
    case atStart => exact ⟨i0, [], rfl, rfl, by omega, hi0, Pl.pre_start HWS.out, World.ownsRow_nil _ _ _ _, Nat.zero_le _, Below.refl _ _⟩
    case round =>
      obtain ⟨i, sp, rfl, rfl, hpi, hin, hpre, hown, hspl, hbr⟩ := hrel
      have HPRE : Hid (Pl.Pre t false p sp i) := hpre
      clear hpre
      by_cases hlt : i < n
      · have hiz : (i : Int) < (n : Int) := by omega
        have htr : Txt wr (some ⟨b, off, none⟩) b off n t := ht.below hbr hbl
        have htA : ∀ o, Txt (wr.alloc o) (some ⟨b, off, none⟩) b off n t := fun o => htr.alloc o
        have HTA : Hid _ := htA
        clear htA
        go_wp2_with fail
        refine (HV.out i _ (by omega) (HTA.out _)).mono ?_
        rintro e w1 ⟨hb1, vb, kd, ok, rfl, hval⟩
        have hfive := five_later hb1
        obtain ⟨⟨g0, g1, g2, g3, g4⟩, gf, gs⟩ := hfive
        have hbw : Below w'.heap.size w' w1 := (hbr.alloc hbr.size _).trans (hb1.mono (by have := hbr.size; simp; omega))
        have htw : Txt w1 (some ⟨b, off, none⟩) b off n t := ht.below hbw hbl
        have hownw : w1.ownsRow w'.heap.size 31 5 u13 sp.length (flatS sp) := (hown.alloc _).kept (below_grown hb1) (by cases h : Value.ownBlock u13 <;> simp)
        clear hb1
        cases ok with
        | false =>
          go_wp2_with fail
          refine bodyPost_ret (results_tmp4 rfl _ _ _) rfl ?_
          exact ⟨hbw, _, 0, 0, false, rfl, by simp⟩
        | true =>
          have hvp := hval rfl
          have hitem := Pl.item_arr hvp
          have hvb := hvp.1.2.1
          have hvb0 := hvp.1.1
          rw [ht.len] at hvb
          have HI : Hid (Pl.Item0 t false i ⟨0, 0, i, vb, kd⟩) := hitem
          clear hval hvp hitem
          have hownb : ∀ k, u13.ownBlock = some k → k ≠ wr.heap.size := fun k hk => by have := (hown.lt k hk).2; omega
          have hbS : ∀ x y z, Below w'.heap.size w' (((w1.setCell ⟨wr.heap.size, 2, none⟩ x).setCell ⟨wr.heap.size, 3, none⟩ y).setCell ⟨wr.heap.size, 4, none⟩ z) := fun x y z => ((hbw.setCell (p := ⟨wr.heap.size, 2, none⟩) hbr.size _).setCell (p := ⟨wr.heap.size, 3, none⟩) hbr.size _).setCell (p := ⟨wr.heap.size, 4, none⟩) hbr.size _
          have howS : ∀ x y z, (((w1.setCell ⟨wr.heap.size, 2, none⟩ x).setCell ⟨wr.heap.size, 3, none⟩ y).setCell ⟨wr.heap.size, 4, none⟩ z).ownsRow w'.heap.size 31 5 u13 sp.length (flatS sp) := fun x y z =>
            ownsRow_setFar (ownsRow_setFar (ownsRow_setFar hownw (p := ⟨wr.heap.size, 2, none⟩) hownb x) (p := ⟨wr.heap.size, 3, none⟩) hownb y) (p := ⟨wr.heap.size, 4, none⟩) hownb z
          have HBS : Hid _ := hbS
          have HOS : Hid _ := howS
          clear hbS howS
          have hspn : sp.length ≤ 65536 := by omega
          go_wp2_with (at_builtin; refine wpList_append_own _ rfl _ _ 37 rfl w'.heap.size 31 i5 (.agg #[.int .i64 0, .int .i64 0, .int .i64 0, .int .i64 0, .int .i64 0]) 5 40 Try.underlying37 hi5 hz0 hz1 hz2 rfl (by decide) _ _ _ rfl ((HOS.out _ _ _).alloc _) ⟨w1.heap.size, 0, none⟩ 1 1 [.int .i64 0, .int .i64 0, .int .i64 i, .int .i64 vb, .int .i64 kd] rfl rfl ?c1 ?c2 ?c3 ?c4 ?c5 ?_)
          case c1 => exact news_new _ _ _ _ (by simp)
          case c2 => intro u hu; simp at hu; rcases hu with rfl | rfl | rfl | rfl | rfl <;> rfl
          case c3 => unfold maxLen; omega
          case c4 => omega
          case c5 => have := hbw.size; simp; omega
          intro v' w2 hown' hgrow _
          have hb2 : Below w'.heap.size w' w2 := ((HBS.out _ _ _).alloc (HBS.out _ _ _).size _).grown hgrow (by have := hbw.size; simp; omega) (fun j hj => (hownw.lt j hj).1)
          have hownN : w2.ownsRow w'.heap.size 31 5 v' (sp ++ [(⟨0, 0, i, vb, kd⟩ : Pl.Span)]).length (flatS (sp ++ [(⟨0, 0, i, vb, kd⟩ : Pl.Span)])) := by simpa [flatS] using hown'
          have ht2 : Txt w2 (some ⟨b, off, none⟩) b off n t := ht.below hb2 hbl
          clear hown' hgrow g0 g1 g2 g3 g4 gf
          go_wp2_with fail
          refine (skipWS_any _ b off n c vb _ t _ (by exact ht2) rfl (by omega) hn).mono ?_
          rintro e wq ⟨rfl, j3, rfl, hw3⟩
          have hj3 : j3 ≤ n := by have := ws_le hw3 (by rw [ht.len]; omega); rw [ht.len] at this; exact this
          have hj3' := hw3.le
          have HW3 : Hid _ := hw3
          clear hw3
          by_cases hl3 : j3 < n
          · have hz3 : (j3 : Int) < (n : Int) := by omega
            have hn3 : ¬ n ≤ j3 := by omega
            obtain ⟨u3, hx⟩ : ∃ x, x = t.getD (j3) 0 := ⟨_, rfl⟩
            have HCu3 : Hid (∀ W, Txt W (some ⟨b, off, none⟩) b off n t → W.cell? ⟨b, off + j3, none⟩ = some (.int .u8 u3)) := by intro W hW; rw [hx]; exact hW.cell (j3) (by omega)
            have hcu3 := HCu3.out _ (ht2)
            have HGu3 : Hid (t[j3]? = some u3) := by rw [hx]; exact ht.get (by omega)
            clear hx
            by_cases hcl3 : u3 = 93
            · subst hcl3
              go_wp2_with fail
              refine bodyPost_ret (results_tmp4 rfl _ _ _) rfl ?_
              exact ⟨hb2, v', j3, j3 + 1, true, by simp, fun _ => ⟨rfl, by omega, sp ++ [⟨0, 0, i, vb, kd⟩], Pl.cont_done HPRE.out HI.out HW3.out HGu3.out (by omega), fun _ => ⟨by simp; omega, hownN⟩⟩⟩
            have ecl3 : (u3 == 93) = false := by simp [hcl3]
            by_cases h44 : u3 = 44
            · subst h44
              go_wp2_with fail
              refine (skipWS_any _ b off n c (j3 + 1) _ t _ (by exact ht2) (by omega) (by omega) hn).mono ?_
              rintro e wq ⟨rfl, i', rfl, hw4⟩
              have hi' : i' ≤ n := by have := ws_le hw4 (by rw [ht.len]; omega); rw [ht.len] at this; exact this
              have hi'' := hw4.le
              have HW4 : Hid _ := hw4
              clear hw4
              go_wp2_with fail
              go_roundg (n - i')
              case measure => go_light; omega
              case rel => go_light; exact ⟨i', sp ++ [⟨0, 0, i, vb, kd⟩], rfl, rfl, by omega, hi', Pl.pre_more HPRE.out HI.out HW3.out HGu3.out HW4.out, hownN, by simp; omega, hb2⟩
            have e44 : (u3 != 44) = true := by simp [h44]
            go_wp2_with fail
            refine bodyPost_ret (results_tmp4 rfl _ _ _) rfl ?_
            exact ⟨hb2, _, 0, 0, false, rfl, by simp⟩
          · have hz3 : ¬ (j3 : Int) < (n : Int) := by omega
            go_wp2_with fail
            refine bodyPost_ret (results_tmp4 rfl _ _ _) rfl ?_
            exact ⟨hb2, _, 0, 0, false, rfl, by simp⟩
      · have hiz : ¬ (i : Int) < (n : Int) := by omega
        go_wp2_with fail
        refine bodyPost_ret (results_tmp4 rfl _ _ _) rfl ?_
        exact ⟨hbr, _, 0, 0, false, rfl, by simp⟩
  · have hz0' : ¬ (i0 : Int) < (n : Int) := by omega
    go_wp2_with fail
    refine wp_loop_rounds 1 ?_
    rw [rounds_succ]
    go_wp2_with fail
    refine bodyPost_ret (results_tmp4 rfl _ _ _) rfl ?_
    exact ⟨Below.refl _ _, _, 0, 0, false, rfl, by simp⟩

set_option maxHeartbeats 8000000 in
set_option maxRecDepth 100000 in
theorem contObjK_any (a : Option Addr) (b off n c p : Nat) (t : List Int) (w : World) (ht : Txt w a b off n t) (hn : n ≤ 65536) (hx : t[p]? = some 123) (hpn : p < n)
    (hV : ∀ (q : Nat) (w : World), p < q → Txt w a b off n t → Calls Try.prog 7 #[.slice a n c, .int .i64 q] w fun e w' => ValP t q w e w') :
    Calls Try.prog 16 #[.slice a n c, .int .i64 p, .bool true] w fun e w' => ContP t p n true true w e w' := by
  obtain rfl := ht.addr (by omega)
  have HV : Hid _ := hV
  have HX : Hid _ := hx
  clear hV hx
  have hcp : w.cell? ⟨b, off + p, none⟩ = some (.int .u8 123) := by
    rw [ht.cell p hpn]
    have := ht.get hpn
    rw [HX.out] at this
    rw [← Option.some.inj this]
  have hpz : (p : Int) < (n : Int) := by omega
  have hbl : 0 < n → b < w.heap.size := ht.lt
  obtain ⟨i5, hi5, hz0, hz1, hz2⟩ := info_parts Try.info31
  go_enter Try.func16, Try.ntmps16
  go_wp2_with fail
  refine (skipWS_any _ b off n c (p + 1) _ t _ ht (by omega) (by omega) hn).mono ?_
  rintro e w' ⟨rfl, i0, rfl, hws⟩
  have hi0 : i0 ≤ n := by have := ws_le hws (by rw [ht.len]; omega); rw [ht.len] at this; exact this
  have hp0 := hws.le
  have HWS : Hid _ := hws
  clear hws
  by_cases hl0 : i0 < n
  · have hz0' : (i0 : Int) < (n : Int) := by omega
    have hni0 : ¬ n ≤ i0 := by omega
    obtain ⟨y, hx⟩ : ∃ x, x = t.getD (i0) 0 := ⟨_, rfl⟩
    have HCy : Hid (∀ W, Txt W (some ⟨b, off, none⟩) b off n t → W.cell? ⟨b, off + i0, none⟩ = some (.int .u8 y)) := by intro W hW; rw [hx]; exact hW.cell (i0) (by omega)
    have hcy := HCy.out _ (ht)
    have HGy : Hid (t[i0]? = some y) := by rw [hx]; exact ht.get (by omega)
    clear hx
    by_cases hcl : y = 125
    · subst hcl
      go_wp2_with fail
      refine bodyPost_ret (results_tmp4 rfl _ _ _) rfl ?_
      exact ⟨Below.refl _ _, _, i0, i0 + 1, true, by simp, fun _ => ⟨rfl, by omega, [], Pl.cont_empty HWS.out HGy.out (by omega), fun _ => ⟨by simp, World.ownsRow_nil _ _ _ _⟩⟩⟩
    have ecl : (y == 125) = false := by simp [hcl]
    clear hcy
    have hcy := HCy.out _ ht
    go_wp2_with fail
    clear hcy HCy hcp
    go_loopg [12, 13] (n - i0) (fun g s12 v wr => ∃ (i : Nat) (sp : List Pl.Span), s12 = .int .i64 i ∧ g = n - i ∧ p < i ∧ i ≤ n ∧ Pl.Pre t true p sp i ∧ wr.ownsRow w'.heap.size 31 5 v sp.length (flatS sp) ∧ sp.length ≤ i ∧ Below w'.heap.size w' wr)
    case atStart => exact ⟨i0, [], rfl, rfl, by omega, hi0, Pl.pre_start HWS.out, World.ownsRow_nil _ _ _ _, Nat.zero_le _, Below.refl _ _⟩
    case round =>
      obtain ⟨i, sp, rfl, rfl, hpi, hin, hpre, hown, hspl, hbr⟩ := hrel
      have HPRE : Hid (Pl.Pre t true p sp i) := hpre
      clear hpre
      by_cases hlt : i < n
      · have hiz : (i : Int) < (n : Int) := by omega
        have htr : Txt wr (some ⟨b, off, none⟩) b off n t := ht.below hbr hbl
        have htA : ∀ o, Txt (wr.alloc o) (some ⟨b, off, none⟩) b off n t := fun o => htr.alloc o
        have HTA : Hid _ := htA
        clear htA
        go_wp2_with fail
        refine (parseString_any _ b off n c i t _ (HTA.out _) hn).mono ?_
        rintro e wq ⟨rfl, nb, okN, rfl, hstr⟩
        cases okN with
        | false =>
          go_wp2_with fail
          refine bodyPost_ret (results_tmp4 rfl _ _ _) rfl ?_
          exact ⟨hbr.alloc hbr.size _, _, 0, 0, false, rfl, by simp⟩
        | true =>
          obtain ⟨hs1, hs2⟩ := hstr rfl
          clear hstr
          have hnb := hs2.lt
          rw [ht.len] at hnb
          have HS1 : Hid _ := hs1
          have HS2 : Hid _ := hs2
          clear hs1 hs2
          go_wp2_with fail
          refine (skipWS_any _ b off n c nb _ t _ (HTA.out _) rfl (by omega) hn).mono ?_
          rintro e wq ⟨rfl, j, rfl, hwj⟩
          have hjn : j ≤ n := by have := ws_le hwj (by rw [ht.len]; omega); rw [ht.len] at this; exact this
          have HWJ : Hid _ := hwj
          have hnj := hwj.le
          clear hwj
          by_cases hjl : j < n
          · have hjz : (j : Int) < (n : Int) := by omega
            have hnjj : ¬ n ≤ j := by omega
            obtain ⟨u, hx⟩ : ∃ x, x = t.getD (j) 0 := ⟨_, rfl⟩
            have HCu : Hid (∀ W, Txt W (some ⟨b, off, none⟩) b off n t → W.cell? ⟨b, off + j, none⟩ = some (.int .u8 u)) := by intro W hW; rw [hx]; exact hW.cell (j) (by omega)
            have hcu : ∀ o, (wr.alloc o).cell? ⟨b, off + j, none⟩ = some (.int .u8 u) := fun o => HCu.out _ (HTA.out o)
            have HGu : Hid (t[j]? = some u) := by rw [hx]; exact ht.get (by omega)
            clear hx
            by_cases h58 : u = 58
            · subst h58
              go_wp2_with fail
              refine (skipWS_any _ b off n c (j + 1) _ t _ (HTA.out _) (by omega) (by omega) hn).mono ?_
              rintro e wq ⟨rfl, va, rfl, hwv⟩
              have hva : va ≤ n := by have := ws_le hwv (by rw [ht.len]; omega); rw [ht.len] at this; exact this
              have HWV : Hid _ := hwv
              have hjv := hwv.le
              clear hwv hcu HCu
              go_wp2_with fail
              refine (HV.out va _ (by omega) (HTA.out _)).mono ?_
              rintro e w1 ⟨hb1, vb, kd, ok, rfl, hval⟩
              have hfive := five_later hb1
              obtain ⟨⟨g0, g1, g2, g3, g4⟩, gf, gs⟩ := hfive
              have hbw : Below w'.heap.size w' w1 := (hbr.alloc hbr.size _).trans (hb1.mono (by have := hbr.size; simp; omega))
              have htw : Txt w1 (some ⟨b, off, none⟩) b off n t := ht.below hbw hbl
              have hownw : w1.ownsRow w'.heap.size 31 5 u13 sp.length (flatS sp) := (hown.alloc _).kept (below_grown hb1) (by cases h : Value.ownBlock u13 <;> simp)
              clear hb1
              cases ok with
              | false =>
                go_wp2_with fail
                refine bodyPost_ret (results_tmp4 rfl _ _ _) rfl ?_
                exact ⟨hbw, _, 0, 0, false, rfl, by simp⟩
              | true =>
                have hvp := hval rfl
                have hitem := Pl.item_obj HS1.out HS2.out HWJ.out HGu.out HWV.out hvp
                have hvb := hvp.1.2.1
                have hvb0 := hvp.1.1
                rw [ht.len] at hvb
                have HI : Hid (Pl.Item0 t true i ⟨i, nb, va, vb, kd⟩) := hitem
                clear hval hvp hitem
                have hownb : ∀ k, u13.ownBlock = some k → k ≠ wr.heap.size := fun k hk => by have := (hown.lt k hk).2; omega
                have hbS : ∀ x y z, Below w'.heap.size w' (((w1.setCell ⟨wr.heap.size, 2, none⟩ x).setCell ⟨wr.heap.size, 3, none⟩ y).setCell ⟨wr.heap.size, 4, none⟩ z) := fun x y z => ((hbw.setCell (p := ⟨wr.heap.size, 2, none⟩) hbr.size _).setCell (p := ⟨wr.heap.size, 3, none⟩) hbr.size _).setCell (p := ⟨wr.heap.size, 4, none⟩) hbr.size _
                have howS : ∀ x y z, (((w1.setCell ⟨wr.heap.size, 2, none⟩ x).setCell ⟨wr.heap.size, 3, none⟩ y).setCell ⟨wr.heap.size, 4, none⟩ z).ownsRow w'.heap.size 31 5 u13 sp.length (flatS sp) := fun x y z =>
                  ownsRow_setFar (ownsRow_setFar (ownsRow_setFar hownw (p := ⟨wr.heap.size, 2, none⟩) hownb x) (p := ⟨wr.heap.size, 3, none⟩) hownb y) (p := ⟨wr.heap.size, 4, none⟩) hownb z
                have HBS : Hid _ := hbS
                have HOS : Hid _ := howS
                clear hbS howS
                have hspn : sp.length ≤ 65536 := by omega
                go_wp2_with (at_builtin; refine wpList_append_own _ rfl _ _ 37 rfl w'.heap.size 31 i5 (.agg #[.int .i64 0, .int .i64 0, .int .i64 0, .int .i64 0, .int .i64 0]) 5 40 Try.underlying37 hi5 hz0 hz1 hz2 rfl (by decide) _ _ _ rfl ((HOS.out _ _ _).alloc _) ⟨w1.heap.size, 0, none⟩ 1 1 [.int .i64 i, .int .i64 nb, .int .i64 va, .int .i64 vb, .int .i64 kd] rfl rfl ?c1 ?c2 ?c3 ?c4 ?c5 ?_)
                case c1 => exact news_new _ _ _ _ (by simp)
                case c2 => intro u hu; simp at hu; rcases hu with rfl | rfl | rfl | rfl | rfl <;> rfl
                case c3 => unfold maxLen; omega
                case c4 => omega
                case c5 => have := hbw.size; simp; omega
                intro v' w2 hown' hgrow _
                have hb2 : Below w'.heap.size w' w2 := ((HBS.out _ _ _).alloc (HBS.out _ _ _).size _).grown hgrow (by have := hbw.size; simp; omega) (fun j hj => (hownw.lt j hj).1)
                have hownN : w2.ownsRow w'.heap.size 31 5 v' (sp ++ [(⟨i, nb, va, vb, kd⟩ : Pl.Span)]).length (flatS (sp ++ [(⟨i, nb, va, vb, kd⟩ : Pl.Span)])) := by simpa [flatS] using hown'
                have ht2 : Txt w2 (some ⟨b, off, none⟩) b off n t := ht.below hb2 hbl
                clear hown' hgrow g0 g1 g2 g3 g4 gf
                go_wp2_with fail
                refine (skipWS_any _ b off n c vb _ t _ (by exact ht2) rfl (by omega) hn).mono ?_
                rintro e wq ⟨rfl, j3, rfl, hw3⟩
                have hj3 : j3 ≤ n := by have := ws_le hw3 (by rw [ht.len]; omega); rw [ht.len] at this; exact this
                have hj3' := hw3.le
                have HW3 : Hid _ := hw3
                clear hw3
                by_cases hl3 : j3 < n
                · have hz3 : (j3 : Int) < (n : Int) := by omega
                  have hn3 : ¬ n ≤ j3 := by omega
                  obtain ⟨u3, hx⟩ : ∃ x, x = t.getD (j3) 0 := ⟨_, rfl⟩
                  have HCu3 : Hid (∀ W, Txt W (some ⟨b, off, none⟩) b off n t → W.cell? ⟨b, off + j3, none⟩ = some (.int .u8 u3)) := by intro W hW; rw [hx]; exact hW.cell (j3) (by omega)
                  have hcu3 := HCu3.out _ (ht2)
                  have HGu3 : Hid (t[j3]? = some u3) := by rw [hx]; exact ht.get (by omega)
                  clear hx
                  by_cases hcl3 : u3 = 125
                  · subst hcl3
                    go_wp2_with fail
                    refine bodyPost_ret (results_tmp4 rfl _ _ _) rfl ?_
                    exact ⟨hb2, v', j3, j3 + 1, true, by simp, fun _ => ⟨rfl, by omega, sp ++ [⟨i, nb, va, vb, kd⟩], Pl.cont_done HPRE.out HI.out HW3.out HGu3.out (by omega), fun _ => ⟨by simp; omega, hownN⟩⟩⟩
                  have ecl3 : (u3 == 125) = false := by simp [hcl3]
                  by_cases h44 : u3 = 44
                  · subst h44
                    go_wp2_with fail
                    refine (skipWS_any _ b off n c (j3 + 1) _ t _ (by exact ht2) (by omega) (by omega) hn).mono ?_
                    rintro e wq ⟨rfl, i', rfl, hw4⟩
                    have hi' : i' ≤ n := by have := ws_le hw4 (by rw [ht.len]; omega); rw [ht.len] at this; exact this
                    have hi'' := hw4.le
                    have HW4 : Hid _ := hw4
                    clear hw4
                    go_wp2_with fail
                    go_roundg (n - i')
                    case measure => go_light; omega
                    case rel => go_light; exact ⟨i', sp ++ [⟨i, nb, va, vb, kd⟩], rfl, rfl, by omega, hi', Pl.pre_more HPRE.out HI.out HW3.out HGu3.out HW4.out, hownN, by simp; omega, hb2⟩
                  have e44 : (u3 != 44) = true := by simp [h44]
                  go_wp2_with fail
                  refine bodyPost_ret (results_tmp4 rfl _ _ _) rfl ?_
                  exact ⟨hb2, _, 0, 0, false, rfl, by simp⟩
                · have hz3 : ¬ (j3 : Int) < (n : Int) := by omega
                  go_wp2_with fail
                  refine bodyPost_ret (results_tmp4 rfl _ _ _) rfl ?_
                  exact ⟨hb2, _, 0, 0, false, rfl, by simp⟩
            · have e58 : (u != 58) = true := by simp [h58]
              go_wp2_with fail
              refine bodyPost_ret (results_tmp4 rfl _ _ _) rfl ?_
              exact ⟨hbr.alloc hbr.size _, _, 0, 0, false, rfl, by simp⟩
          · have hjz : ¬ (j : Int) < (n : Int) := by omega
            go_wp2_with fail
            refine bodyPost_ret (results_tmp4 rfl _ _ _) rfl ?_
            exact ⟨hbr.alloc hbr.size _, _, 0, 0, false, rfl, by simp⟩
      · have hiz : ¬ (i : Int) < (n : Int) := by omega
        go_wp2_with fail
        refine bodyPost_ret (results_tmp4 rfl _ _ _) rfl ?_
        exact ⟨hbr, _, 0, 0, false, rfl, by simp⟩
  · have hz0' : ¬ (i0 : Int) < (n : Int) := by omega
    go_wp2_with fail
    refine wp_loop_rounds 1 ?_
    rw [rounds_succ]
    go_wp2_with fail
    refine bodyPost_ret (results_tmp4 rfl _ _ _) rfl ?_
    exact ⟨Below.refl _ _, _, 0, 0, false, rfl, by simp⟩

end Go.Proofs.Qxb6602274a
