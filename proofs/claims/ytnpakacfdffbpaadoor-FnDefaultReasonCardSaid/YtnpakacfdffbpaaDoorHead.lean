/-
  The contracts of the functions that write a message's header: WriteType, WriteLength, SetType, WriteHeader, New, begun. Conditions: the message lies in memory as New makes it.
-/
import Derived.Test.YtnpakacfdffbpaaDoorPut
import Derived.StillTailTactics
import Derived.Deep.RegionHeld3
import Derived.Deep.QuietTactic
import Derived.BigQuiet
import Derived.Deep.DrawnRows
namespace Go.Proofs.YtnpakacfdffbpaaDoor
open Go.RowKit
attribute [local go_sem ↓] Go.wp_at_zero Go.wp_at_succ

theorem u16_in (n : Int) (h0 : 0 ≤ n) (h : n < 65536) : IntKind.u16.wrap n = n := by simp [IntKind.wrap, IntKind.bits, IntKind.signed]; omega

/-- Behind a write into the first bytes: the message as it was, the bytes other than at o, o + 1 as they were. -/
def Wrote (M R : Nat) (mc : Array Value) (o : Nat) (cur : Array Value) (w : World) (e : Ending) (w' : World) : Prop :=
  e = .returned (.tuple #[]) ∧ Step [R] w w' ∧ Blk w' M mc 60 ∧ ∃ x y, Blk w' R ((cur.setIfInBounds o x).setIfInBounds (o + 1) y) 5

set_option maxRecDepth 100000 in
set_option maxHeartbeats 800000 in
theorem writeLength (M R : Nat) (mt len : Int) (attrs : Value) (rlen : Nat) (cur : Array Value) (w : World)
    (hM : Blk w M (msgC mt len attrs (.slice (some ⟨R, 0, none⟩) rlen 120)) 60) (hR : Blk w R cur 5) (hne : M ≠ R) (hsz : cur.size = 120) (hr : 20 ≤ rlen) (hr2 : rlen ≤ 120) (hl : 0 ≤ len) (hl2 : len < 65536) :
    Calls Tryd.prog 32 #[.pointer (some ⟨M, 0, none⟩)] w (Wrote M R (msgC mt len attrs (.slice (some ⟨R, 0, none⟩) rlen 120)) 2 cur w) := by
  have c16 : w.cell? ⟨M, 16, none⟩ = some (.slice (some ⟨R, 0, none⟩) rlen 120) := hM.cell 16
  have c2 : w.cell? ⟨M, 2, none⟩ = some (.int .u32 len) := hM.cell 2
  go_enter Tryd.func32, Tryd.ntmps32
  go_wp2_with (go_at_call 31; refine (grow_has M R mt len attrs rlen 4 _ hM (by omega)).mono ?_; rintro e w' ⟨rfl, rfl⟩)
  go_still_tail 11, (by kernel_rfl)
  change wpList _ _ _ _ _ w.drew
  have hM2 := hM.drew
  have hR2 := hR.drew
  have hst : Step [R] w w.drew := (Step.refl _ _).drew
  rw [u16_in len hl hl2]
  generalize w.drew = w2 at hM2 hR2 hst ⊢
  go_wp2_with (go_at_call 38; refine (put16 R 2 2 118 len cur _ hR2 (by omega) (by omega) hl hl2).mono ?_; rintro e w' ⟨rfl, hs, x, y, hb⟩)
  go_end0
  exact ⟨rfl, hst.trans hs, hs.blk hM2 (by simpa using hne), x, y, hb⟩

set_option maxRecDepth 100000 in
set_option maxHeartbeats 800000 in
theorem writeType (M R : Nat) (len : Int) (attrs : Value) (rlen : Nat) (cur : Array Value) (w : World)
    (hM : Blk w M (msgC 1 len attrs (.slice (some ⟨R, 0, none⟩) rlen 120)) 60) (hR : Blk w R cur 5) (hne : M ≠ R) (hsz : cur.size = 120) (hr : 20 ≤ rlen) (hr2 : rlen ≤ 120) :
    Calls Tryd.prog 30 #[.pointer (some ⟨M, 0, none⟩)] w (Wrote M R (msgC 1 len attrs (.slice (some ⟨R, 0, none⟩) rlen 120)) 0 cur w) := by
  have hlt := hM.lt
  have c16 : w.cell? ⟨M, 16, none⟩ = some (.slice (some ⟨R, 0, none⟩) rlen 120) := hM.cell 16
  have c0 : w.cell? ⟨M, 0, none⟩ = some (.int .u16 1) := hM.cell 0
  have c1 : w.cell? ⟨M, 1, none⟩ = some (.int .u8 0) := hM.cell 1
  go_enter Tryd.func30, Tryd.ntmps30
  go_wp2_with (go_at_call 31; refine (grow_has M R 1 len attrs rlen 2 _ hM (by omega)).mono ?_; rintro e w' ⟨rfl, rfl⟩)
  go_region_held3 (fun w' => w'.cell? ⟨M, 16, none⟩ = some (.slice (some ⟨R, 0, none⟩) rlen 120) ∧ w'.cell? ⟨M, 0, none⟩ = some (.int .u16 1) ∧ w'.cell? ⟨M, 1, none⟩ = some (.int .u8 0)) (first | go_keep | exact ⟨hk.cell 16, hk.cell 0, hk.cell 1⟩)
    (first | (go_at_call 39; refine (value39 _).mono ?_; rintro e w' ⟨rfl, rfl⟩) | (go_at_call 38; refine (put16 R 0 2 120 1 cur _ ?_ (by omega) (by omega) (by omega) (by omega)).mono ?_; exact Blk.drew (hR.alloc _); rintro e w' ⟨rfl, hs, x, y, hb⟩; have hk := hs.blk (Blk.drew (hM.alloc _)) (by simpa using hne)))
  go_end0
  exact ⟨rfl, (((Step.refl _ _).alloc _).drew).trans hs, hk, x, y, hb⟩

/-- SetType on a message of type 0: the type in its cells and in its first two bytes. -/
def Typed (M R : Nat) (mc : Array Value) (cur : Array Value) (w : World) (e : Ending) (w' : World) : Prop :=
  e = .returned (.tuple #[]) ∧ Step [M, R] w w' ∧ Blk w' M mc 60 ∧ ∃ x y, Blk w' R ((cur.setIfInBounds 0 x).setIfInBounds 1 y) 5

set_option maxRecDepth 100000 in
set_option maxHeartbeats 800000 in
theorem setType (M R : Nat) (len : Int) (attrs : Value) (rlen : Nat) (cur : Array Value) (w : World)
    (hM : Blk w M (msgC 0 len attrs (.slice (some ⟨R, 0, none⟩) rlen 120)) 60) (hR : Blk w R cur 5) (hne : M ≠ R) (hsz : cur.size = 120) (hr : 20 ≤ rlen) (hr2 : rlen ≤ 120) :
    Calls Tryd.prog 22 #[.pointer (some ⟨M, 0, none⟩), .agg #[.int .u16 1, .int .u8 0]] w (Typed M R (msgC 1 len attrs (.slice (some ⟨R, 0, none⟩) rlen 120)) cur w) := by
  have hlt := hM.lt
  have c0 : w.cell? ⟨M, 0, none⟩ = some (.int .u16 0) := hM.cell 0
  have c1 : w.cell? ⟨M, 1, none⟩ = some (.int .u8 0) := hM.cell 1
  have f0 := hM.frozen 0
  have f1 := hM.frozen 1
  go_enter Tryd.func22, Tryd.ntmps22
  go_wp2_with fail
  refine (writeType M R len attrs rlen cur _ (by have h := ((hM.set 0 (.int .u16 1)).set 1 (.int .u8 0)).alloc (.cells #[.int .u16 1, .int .u8 0] 54); rw [msgC_set01] at h; exact h) (((hR.set_other _ _ (Ne.symm hne)).set_other _ _ (Ne.symm hne)).alloc _) hne hsz hr hr2).mono ?_
  rintro e w' ⟨rfl, hs, hm, x, y, hb⟩
  go_wp2
  go_end0
  refine ⟨rfl, ((((Step.refl _ _).set _ _ (Or.inl (by simp))).set _ _ (Or.inl (by simp))).alloc _).trans (hs.mono (by simp)), hm, x, y, hb⟩

/-- The header is written: the bytes are some bytes, as many as before. -/
def Headed (M R : Nat) (mc : Array Value) (w : World) (e : Ending) (w' : World) : Prop :=
  e = .returned (.tuple #[]) ∧ Step [R] w w' ∧ Blk w' M mc 60 ∧ ∃ cur : Array Value, cur.size = 120 ∧ Blk w' R cur 5

set_option maxRecDepth 100000 in
set_option maxHeartbeats 800000 in
theorem writeHeader (M R : Nat) (rlen : Nat) (cur : Array Value) (w : World)
    (hM : Blk w M (msgC 1 0 (.slice none 0 0) (.slice (some ⟨R, 0, none⟩) rlen 120)) 60) (hR : Blk w R cur 5) (hne : M ≠ R) (hsz : cur.size = 120) (hr : 20 ≤ rlen) (hr2 : rlen ≤ 120) :
    Calls Tryd.prog 24 #[.pointer (some ⟨M, 0, none⟩)] w (Headed M R (msgC 1 0 (.slice none 0 0) (.slice (some ⟨R, 0, none⟩) rlen 120)) w) := by
  have c16 : w.cell? ⟨M, 16, none⟩ = some (.slice (some ⟨R, 0, none⟩) rlen 120) := hM.cell 16
  go_enter Tryd.func24, Tryd.ntmps24
  go_wp2_with (go_at_call 31; refine (grow_has M R 1 0 _ rlen 20 _ hM (by omega)).mono ?_; rintro e w' ⟨rfl, rfl⟩)
  refine (writeType M R 0 _ rlen cur _ hM hR hne hsz hr hr2).mono ?_
  rintro e w1 ⟨rfl, hs1, hM1, x1, y1, hR1⟩
  go_wp2_with fail
  refine (writeLength M R 1 0 _ rlen _ _ hM1 hR1 hne (by simp [hsz]) hr hr2 (by omega) (by omega)).mono ?_
  rintro e w2 ⟨rfl, hs2, hM2, x2, y2, hR2⟩
  have hs : Step [R] w w2 := hs1.trans hs2
  clear hs1 hs2 hM1 hR1 c16
  generalize hc2 : ((cur.setIfInBounds 0 x1).setIfInBounds (0 + 1) y1).setIfInBounds 2 x2 = cur2 at hR2
  have hz2 : (cur2.setIfInBounds (2 + 1) y2).size = 120 := by rw [← hc2]; simp [hsz]
  generalize cur2.setIfInBounds (2 + 1) y2 = cur3 at hR2 hz2
  clear hc2
  have c16 : w2.cell? ⟨M, 16, none⟩ = some (.slice (some ⟨R, 0, none⟩) rlen 120) := hM2.cell 16
  go_wp2_with fail
  go_still_tail 6, (by kernel_rfl)
  change wpList _ _ _ _ _ w2.drew
  have hM3 := hM2.drew
  have hR3 := hR2.drew
  have hs3 := hs.drew
  generalize w2.drew = w3 at hM3 hR3 hs3 ⊢
  go_wp2_with (go_at_call 33; refine (put32 R 4 4 116 554869826 cur3 _ hR3 (by omega) (by omega) (by omega) (by omega)).mono ?_; rintro e w4 ⟨rfl, hs4, x, y, z, u, hR4⟩)
  have hM4 := hs4.blk hM3 (by simpa using hne)
  have hst4 := hs3.trans hs4
  generalize hc4 : ((((cur3.setIfInBounds 4 x).setIfInBounds (4 + 1) y).setIfInBounds (4 + 2) z).setIfInBounds (4 + 3) u) = cur4 at hR4
  have hz4 : cur4.size = 120 := by rw [← hc4]; simp [hz2]
  clear hc4 hs4 hs3 hM3 hR3 hM2 hR2 hs c16
  have c16 : w4.cell? ⟨M, 16, none⟩ = some (.slice (some ⟨R, 0, none⟩) rlen 120) := hM4.cell 16
  go_still_tail 9, (by kernel_rfl)
  change wpList _ _ _ _ _ w4.drew
  have hM5 := hM4.drew
  have hR5 := hR4.drew
  have hs5 := hst4.drew
  generalize w4.drew = w5 at hM5 hR5 hs5 ⊢
  refine wpList_copy_own rfl (.tmp 24) (.tmp 28) 22 22 rfl 5 Tryd.underlying22 (by kernel_rfl) R 8 12 112 ⟨M, 3, none⟩ 12 12 rfl rfl cur4 5 hR5 (List.replicate 12 (.int .u8 0)) (by simp) ?src (by simp [hz4]) (by simp [Value.oneCell']) ?rest
  case src =>
    intro j v hj
    have hj' : j < 12 := by
      have := (List.getElem?_eq_some_iff.1 hj).1
      simpa using this
    rw [List.getElem?_replicate, if_pos hj'] at hj
    obtain rfl := Option.some.inj hj
    have e : ((⟨M, 3, none⟩ : Addr).add j) = ⟨M, 3 + j, none⟩ := by unfold Addr.add; split <;> simp_all
    rw [e, hM5.cell]
    match j, hj' with
    | 0, _ => rfl
    | 1, _ => rfl
    | 2, _ => rfl
    | 3, _ => rfl
    | 4, _ => rfl
    | 5, _ => rfl
    | 6, _ => rfl
    | 7, _ => rfl
    | 8, _ => rfl
    | 9, _ => rfl
    | 10, _ => rfl
    | 11, _ => rfl
  case rest =>
    have hM6 := hM5.row_other (g := R) ((cur4.toList.take 8 ++ (List.replicate 12 (Value.int .u8 0) ++ cur4.toList.drop (8 + (List.replicate 12 (Value.int .u8 0)).length))).toArray) hne
    have hR6 := hR5.row ((cur4.toList.take 8 ++ (List.replicate 12 (Value.int .u8 0) ++ cur4.toList.drop (8 + (List.replicate 12 (Value.int .u8 0)).length))).toArray)
    have hs6 := hs5.row R ((cur4.toList.take 8 ++ (List.replicate 12 (Value.int .u8 0) ++ cur4.toList.drop (8 + (List.replicate 12 (Value.int .u8 0)).length))).toArray) (Or.inl (by simp))
    have hz6 : ((cur4.toList.take 8 ++ (List.replicate 12 (Value.int .u8 0) ++ cur4.toList.drop (8 + (List.replicate 12 (Value.int .u8 0)).length))).toArray).size = 120 := by simp [hz4]
    generalize w5.setRow R ((cur4.toList.take 8 ++ (List.replicate 12 (Value.int .u8 0) ++ cur4.toList.drop (8 + (List.replicate 12 (Value.int .u8 0)).length))).toArray) = w6 at hM6 hR6 hs6 ⊢
    go_wp2
    go_end0
    exact ⟨rfl, hs6, hM6, _, hz6, hR6⟩
end Go.Proofs.YtnpakacfdffbpaaDoor
