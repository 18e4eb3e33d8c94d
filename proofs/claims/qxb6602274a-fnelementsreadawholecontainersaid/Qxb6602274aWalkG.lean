/-
  The small ones: trimSpace, jsonType, mKindName, mSame, mClone and the wrappers.
-/
import Derived.Test.Qxb6602274aWalkF
import Derived.Laws.CopyOwn
import Derived.Lib.SliceRun
namespace Go.Proofs.Qxb6602274a
open Go.RowKit

theorem valueLen_any (a : Option Addr) (b off n c e : Nat) (t : List Int) (w : World) (ht : Txt w a b off n t) (hn : n ≤ 65536) (hcap : n ≤ c) (hv : Pl.Val t 0 e) (hf : Pl.Fol t e) :
    Calls Try.prog 24 #[.slice a n c] w fun r w' => r = .returned (.int .i64 e) ∧ w' = w := by
  obtain ⟨h1, h2, x, hx, hd, h | h | h⟩ := hv
  · obtain ⟨rfl, h⟩ := h
    exact vl_str a b off n c e t w ht hn hx h
  · exact vl_cont a b off n c e t w ht hn hcap hx h.1 h.2
  · exact vl_scalar a b off n c e t w ht hn hx h.1 h.2.1 h.2.2.1 h.2.2.2 h1 hf

theorem zzValueLen_any (a : Option Addr) (b off n c e : Nat) (t : List Int) (w : World) (ht : Txt w a b off n t) (hn : n ≤ 65536) (hcap : n ≤ c) {x0 : Int} (h0 : t[0]? = some x0) (hx0 : x0 = 91 ∨ x0 = 123) (hs : Pl.Sk t 1 1 0 e) :
    Calls Try.prog 10 #[.slice a n c] w fun r w' => r = .returned (.int .i64 e) ∧ w' = w := by
  have HV := vl_cont a b off n c e t w ht hn hcap h0 hx0 hs
  have HV' : Hid (Calls Try.prog 24 #[.slice a n c] w fun r w' => r = .returned (.int .i64 e) ∧ w' = w) := HV
  clear HV h0 hx0 hs ht
  go_enter Try.func10, Try.ntmps10
  go_wp2_with (go_at_call 24; refine HV'.out.mono ?_; rintro r w' ⟨rfl, rfl⟩)
  go_ret
  exact ⟨rfl, rfl⟩

set_option maxHeartbeats 1000000 in
theorem trim_any (a : Option Addr) (b off n c k : Nat) (t : List Int) (w : World) (ht : Txt w a b off n t) (hn : n ≤ 65536) (hcap : n ≤ c) (hw : Pl.Ws t 0 k) (hk : k < n) :
    Calls Try.prog 30 #[.slice a n c] w fun r w' => r = .returned (.slice (some ⟨b, off + k, none⟩) (n - k) (c - k)) ∧ w' = w := by
  obtain rfl := ht.addr (by omega)
  have HW : Hid (Pl.Ws t 0 k) := hw
  clear hw
  go_enter Try.func30, Try.ntmps30
  go_wp2_with fail
  go_loopg [0] k (fun g s0 wr => wr = w ∧ ∃ j : Nat, s0 = .slice (some ⟨b, off + j, none⟩) (n - j) (c - j) ∧ g = k - j ∧ j ≤ k)
  case atStart => exact ⟨rfl, 0, rfl, rfl, by omega⟩
  case round =>
    obtain ⟨rfl, j, rfl, rfl, hj⟩ := hrel
    obtain ⟨x, hx⟩ : ∃ x, t[j]? = some x := ⟨_, ht.get (by omega)⟩
    obtain ⟨_, hcx⟩ := ht.at hx
    have hpos : ((n - j : Nat) : Int) > 0 := by omega
    have hpos2 : 0 < n - j := by omega
    by_cases hlt : j < k
    · obtain ⟨y, hy, hyw⟩ := HW.out.all j (Nat.zero_le _) hlt
      obtain rfl : y = x := by rw [hx] at hy; exact (Option.some.inj hy).symm
      clear hx hy
      go_wp2_with (go_at_call 29; refine (isSpace_any _ _).mono ?_; rintro e w' ⟨rfl, rfl⟩; rw [hyw])
      go_roundg (k - (j + 1))
      case rel => go_light; exact ⟨rfl, j + 1, by simp [Nat.add_assoc, Nat.sub_sub], rfl, by omega⟩
      case measure => go_light; omega
    · obtain rfl : j = k := by omega
      have hyw := HW.out.stop x hx
      clear hx
      go_wp2_with (go_at_call 29; refine (isSpace_any _ _).mono ?_; rintro e w' ⟨rfl, rfl⟩; rw [hyw])
      go_ret
      exact ⟨rfl, rfl⟩

def nameOf (k : Nat) : ByteArray := if k = 1 then ⟨#[110, 117, 108, 108]⟩ else if k = 2 then ⟨#[98, 111, 111, 108, 101, 97, 110]⟩ else if k = 3 then ⟨#[115, 116, 114, 105, 110, 103]⟩ else if k = 4 then ⟨#[97, 114, 114, 97, 121]⟩ else if k = 5 then ⟨#[111, 98, 106, 101, 99, 116]⟩ else ⟨#[110, 117, 109, 98, 101, 114]⟩

theorem kindName_any (k : Nat) (w : World) (hk : 1 ≤ k) (hk6 : k ≤ 6) : Calls Try.prog 18 #[.int .i64 k] w fun e w' => e = .returned (.string (nameOf k)) ∧ w' = w := by
  obtain rfl | rfl | rfl | rfl | rfl | rfl : k = 1 ∨ k = 2 ∨ k = 3 ∨ k = 4 ∨ k = 5 ∨ k = 6 := by omega
  all_goals
    go_enter Try.func18, Try.ntmps18
    go_wp2
    go_ret
    exact ⟨rfl, rfl⟩

theorem jsonType_any (b off n c : Nat) (x : Int) (w : World) (hn : 0 < n) (hx : w.cell? ⟨b, off, none⟩ = some (.int .u8 x)) :
    Calls Try.prog 27 #[.slice (some ⟨b, off, none⟩) n c] w fun e w' => e = .returned (.string (nameOf (Pl.kindOf x))) ∧ w' = w := by
  by_cases h1 : x = 110
  · subst h1
    go_enter Try.func27, Try.ntmps27
    go_wp2
    go_ret
    exact ⟨rfl, rfl⟩
  have e1 : (x == 110) = false := by simp [h1]
  by_cases h2 : x = 116
  · subst h2
    go_enter Try.func27, Try.ntmps27
    go_wp2
    go_ret
    exact ⟨rfl, rfl⟩
  have e2 : (x == 116) = false := by simp [h2]
  by_cases h3 : x = 102
  · subst h3
    go_enter Try.func27, Try.ntmps27
    go_wp2
    go_ret
    exact ⟨rfl, rfl⟩
  have e3 : (x == 102) = false := by simp [h3]
  by_cases h4 : x = 34
  · subst h4
    go_enter Try.func27, Try.ntmps27
    go_wp2
    go_ret
    exact ⟨rfl, rfl⟩
  have e4 : (x == 34) = false := by simp [h4]
  by_cases h5 : x = 91
  · subst h5
    go_enter Try.func27, Try.ntmps27
    go_wp2
    go_ret
    exact ⟨rfl, rfl⟩
  have e5 : (x == 91) = false := by simp [h5]
  by_cases h6 : x = 123
  · subst h6
    go_enter Try.func27, Try.ntmps27
    go_wp2
    go_ret
    exact ⟨rfl, rfl⟩
  have e6 : (x == 123) = false := by simp [h6]
  have ek : Pl.kindOf x = 6 := by simp [Pl.kindOf, h1, h2, h3, h4, h5, h6]
  rw [ek]
  go_enter Try.func27, Try.ntmps27
  go_wp2
  go_ret
  exact ⟨rfl, rfl⟩

theorem zzJsonType_any (b off n c : Nat) (x : Int) (w : World) (hn : 0 < n) (hx : w.cell? ⟨b, off, none⟩ = some (.int .u8 x)) :
    Calls Try.prog 17 #[.slice (some ⟨b, off, none⟩) n c] w fun e w' => e = .returned (.string (nameOf (Pl.kindOf x))) ∧ w' = w := by
  have HV' : Hid (Calls Try.prog 27 #[.slice (some ⟨b, off, none⟩) n c] w fun e w' => e = .returned (.string (nameOf (Pl.kindOf x))) ∧ w' = w) := jsonType_any b off n c x w hn hx
  clear hx
  go_enter Try.func17, Try.ntmps17
  go_wp2_with (go_at_call 27; refine HV'.out.mono ?_; rintro r w' ⟨rfl, rfl⟩)
  go_ret
  exact ⟨rfl, rfl⟩

theorem Try.info5 : (Try.prog.info? 5).map (fun i => (i.zero, i.size, i.bytes)) = some (some (.int .u8 0), 1, 1) := by kernel_rfl
def SomeBool (e : Ending) : Prop := ∃ r : Bool, e = .returned (.bool r)
theorem zzBytes_any (a : Option Addr) (n c : Nat) (w : World) : Calls Try.prog 15 #[.slice a n c] w fun e w' => w' = w ∧ SomeBool e := by
  by_cases h : n > 1048576
  · have hz : (n : Int) > 1048576 := by omega
    go_enter Try.func15, Try.ntmps15
    go_wp2
    all_goals go_ret
    all_goals exact ⟨rfl, _, rfl⟩
  · have hz : ¬ (n : Int) > 1048576 := by omega
    go_enter Try.func15, Try.ntmps15
    go_wp2
    all_goals go_ret
    all_goals exact ⟨rfl, _, rfl⟩

set_option maxHeartbeats 2000000 in
theorem same_any (b off n c1 c2 : Nat) (t : List Int) (w : World) (ht : Txt w (some ⟨b, off, none⟩) b off n t) (hn : n ≤ 65536) :
    Calls Try.prog 14 #[.slice (some ⟨b, off, none⟩) n c1, .slice (some ⟨b, off, none⟩) n c2] w fun e w' => e = .returned (.bool true) ∧ ∃ m, w' = w.drewN m := by
  have q22 : ∀ (w : World) (a : Option Addr) (n c n' c' : Nat), (binOp .eql 22 (.slice a n c) (.slice none n' c')).run Try.prog w = .ok (.bool a.isNone) w := fun w a n c n' c' => Lib.run_eql_slice_nil w _ _ a n c n' c' Try.underlying22
  go_enter Try.func14, Try.ntmps14
  go_wp2_with fail
  go_loopw [5] (fun s5 wr => ∃ (k m : Nat), k ≤ n ∧ s5 = .int .i64 k ∧ wr = w.drewN m) (fun i _ => n - (intOf i).toNat)
  case atStart => exact ⟨0, 0, Nat.zero_le _, rfl, rfl⟩
  case round =>
    obtain ⟨k, m, hk, rfl, rfl⟩ := hrel
    by_cases hlt : k < n
    · have hkz : (k : Int) < (n : Int) := by omega
      have d1 := ht.cell k hlt
      go_wp2_with fail
      go_quiet (fail)
      go_wp2_with fail
      go_roundw
      case rel => exact ⟨k + 1, m + nq, by omega, by go_num, by simp⟩
      case measure => simp [intOf]; omega
    · have hkz : ¬ (k : Int) < (n : Int) := by omega
      go_wp2_with fail
      go_ret
      exact ⟨rfl, m, rfl⟩

set_option maxHeartbeats 2000000 in
theorem clone_any (b off n c : Nat) (t : List Int) (w : World) (ht : Txt w (some ⟨b, off, none⟩) b off n t) (hn : n ≤ 65536) (hn0 : 0 < n) :
    Calls Try.prog 9 #[.slice (some ⟨b, off, none⟩) n c] w fun e w' => e = .returned (.slice (some ⟨w.heap.size, 0, none⟩) n n) ∧ Below w.heap.size w w' ∧ Txt w' (some ⟨w.heap.size, 0, none⟩) w.heap.size 0 n t := by
  have q22 : ∀ (w : World) (a : Option Addr) (n c n' c' : Nat), (binOp .eql 22 (.slice a n c) (.slice none n' c')).run Try.prog w = .ok (.bool a.isNone) w := fun w a n c n' c' => Lib.run_eql_slice_nil w _ _ a n c n' c' Try.underlying22
  have hmk := run_make_row' (P := Try.prog) 22 5 (.int .u8 0) 1 Try.underlying22 Try.info5 rfl .i64 .i64 n (by omega) (by omega)
  have hlen := ht.len
  have hsz : (madeCells #[Value.int .u8 0] n).size = n := by simp [madeCells]
  have hgg : (w.alloc (.cells (madeCells #[.int .u8 0] n) 5)).heap[w.heap.size]? = some (.cells (madeCells #[.int .u8 0] n) 5 (0, 0)) := by unfold World.alloc; exact Array.getElem?_push_size
  have hcp := run_copy_row (P := Try.prog) (w.alloc (.cells (madeCells #[.int .u8 0] n) 5)) 22 22 3 5 w.heap.size 0 n n ⟨b, off, none⟩ n c (madeCells #[.int .u8 0] n) 5 (t.map (fun z => Value.int .u8 z)) Try.underlying22 (by kernel_rfl)
    hgg (by simp [hlen]) (fun j v hv => by
      rw [List.getElem?_map] at hv
      obtain ⟨z, hz, rfl⟩ := Option.map_eq_some_iff.1 hv
      rw [Addr.add_lit]
      exact ((ht.alloc _).at hz).2) (by simp [hlen, hsz]) (fun v hv => by obtain ⟨z, _, rfl⟩ := List.mem_map.1 hv; rfl)
  have e : ((madeCells #[Value.int .u8 0] n).toList.take 0 ++ t.map (fun z => Value.int .u8 z) ++ (madeCells #[Value.int .u8 0] n).toList.drop (0 + (t.map (fun z => Value.int .u8 z)).length)) = t.map (fun z => Value.int .u8 z) := by
    have : (madeCells #[Value.int .u8 0] n).toList.drop (0 + (t.map (fun z => Value.int .u8 z)).length) = [] := by
      apply List.drop_eq_nil_of_le; simp [hlen, hsz]
    rw [this]; simp
  rw [e] at hcp
  have hB : Below w.heap.size w ((w.alloc (.cells (madeCells #[.int .u8 0] n) 5)).setRow w.heap.size (t.map (fun z => Value.int .u8 z)).toArray) := below_setRow ((Below.refl _ _).alloc (Nat.le_refl _) _) (Nat.le_refl _) _
  have hT : Txt ((w.alloc (.cells (madeCells #[.int .u8 0] n) 5)).setRow w.heap.size (t.map (fun z => Value.int .u8 z)).toArray) (some ⟨w.heap.size, 0, none⟩) w.heap.size 0 n t := by
    refine ⟨hlen, fun _ => rfl, fun i hi => ?_, ht.byte⟩
    rw [cell_setRow_same _ _ _ (madeCells #[.int .u8 0] n) _ 5 (0, 0) hgg]
    have ht' : t[i]? = some (t.getD i 0) := ht.get hi
    rw [List.getElem?_toArray, List.getElem?_map, Nat.zero_add, ht']
    rfl
  generalize (w.alloc (.cells (madeCells #[.int .u8 0] n) 5)).setRow w.heap.size (t.map (fun z => Value.int .u8 z)).toArray = w2 at *
  clear e hsz hlen ht hgg
  go_enter Try.func9, Try.ntmps9
  go_wp2_with fail
  go_ret
  exact ⟨rfl, hB, hT⟩

end Go.Proofs.Qxb6602274a
