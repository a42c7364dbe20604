/-
  The contract of Message.Add at a message without attributes, for values of 1 to 90 bytes: one attribute, its value in the message's bytes. Conditions: the value lies in memory apart from the message.
-/
import Derived.Test.YtnpakacfdffbpaaDoorBegun
import Derived.Deep.AppendLies
import Derived.Lib.Hide
import Derived.Deep.RegionLaw
import Derived.Outline
namespace Go.Proofs.YtnpakacfdffbpaaDoor
open Go.RowKit
attribute [local go_sem ↓] Go.wp_at_zero Go.wp_at_succ

/-- Behind Add: one attribute; its value lies in the bytes from 24 on and reads as vs. -/
def AddedW (M R L : Nat) (vs : List Value) (w w' : World) : Prop :=
  Step [M, R] w w' ∧ ∃ (A acap rl : Nat) (len : Int) (cur : Array Value),
    Blk w' M (msgC 1 len (.slice (some ⟨A, 0, none⟩) 1 acap) (.slice (some ⟨R, 0, none⟩) rl 120)) 60 ∧ Blk w' R cur 5 ∧ cur.size = 120 ∧
    (∀ j v, vs[j]? = some v → cur[24 + j]? = some v) ∧ w'.cell? ⟨A, 2, none⟩ = some (.slice (some ⟨R, 24, none⟩) L 96)

def Added (M R L : Nat) (vs : List Value) (w : World) (e : Ending) (w' : World) : Prop := e = .returned (.tuple #[]) ∧ AddedW M R L vs w w'

theorem Tryd.info65 : ∃ i z, Tryd.prog.info? 65 = some i ∧ i.zero = some z ∧ i.size = 3 ∧ i.bytes = 32 ∧ z.cells.size = 3 := by
  have h : (Tryd.prog.info? 65).map (fun i => (i.size, i.bytes, i.zero.map (fun z => z.cells.size))) = some (3, 32, some 3) := by kernel_rfl
  obtain ⟨i, hi, he⟩ := Option.map_eq_some_iff.1 h
  simp only [Prod.mk.injEq] at he
  obtain ⟨h1, h2, h3⟩ := he
  obtain ⟨z, hz, hzs⟩ := Option.map_eq_some_iff.1 h3
  exact ⟨i, z, hi, hz, h1, h2, hzs⟩

set_option maxRecDepth 100000 in
set_option maxHeartbeats 1600000 in
theorem add_any (M R V vo L vcap : Nat) (t : Int) (cur : Array Value) (vs : List Value) (w : World)
    (hM : Blk w M (msgC 1 0 (.slice none 0 0) (.slice (some ⟨R, 0, none⟩) 20 120)) 60) (hR : Blk w R cur 5) (hne : M ≠ R) (hsz : cur.size = 120)
    (hL : 1 ≤ L) (hL2 : L ≤ 90) (hvs : vs.length = L) (hV : ∀ j v, vs[j]? = some v → w.cell? ⟨V, vo + j, none⟩ = some v) (hVM : V ≠ M) (hVR : V ≠ R) (h1 : ∀ v ∈ vs, v.oneCell' = true) (ht : 0 ≤ t) (ht2 : t < 65536) :
    Calls Tryd.prog 37 #[.pointer (some ⟨M, 0, none⟩), .int .u16 t, .slice (some ⟨V, vo, none⟩) L vcap] w (Added M R L vs w) := by
  have c2 : w.cell? ⟨M, 2, none⟩ = some (.int .u32 0) := hM.cell 2
  obtain ⟨i0, z0, hi, hz0, hz1, hz2, hz3z⟩ := Tryd.info65
  have H1c : ∀ u ∈ [Value.int .u16 t, .int .u16 L, .slice (some ⟨R, 24, none⟩) L 96], u.oneCell' = true := by
    intro u hu
    simp only [List.mem_cons, List.mem_nil_iff, or_false] at hu
    rcases hu with rfl | rfl | rfl <;> rfl
  have HV := Lib.hid hV
  have H1 := Lib.hid h1
  clear hV h1
  go_enter Tryd.func37, Tryd.ntmps37
  go_wp2_with fail
  refine (grow_room M R 1 0 _ 20 _ _ hM (by omega) (by omega)).mono ?_
  rintro e w1 ⟨rfl, hs1, hM1⟩
  rw [show (20 + (4 + (L : Int))).toNat = 24 + L from by omega] at hM1
  have c16 : w1.cell? ⟨M, 16, none⟩ = some (.slice (some ⟨R, 0, none⟩) (24 + L) 120) := hM1.cell 16
  have c2' : w1.cell? ⟨M, 2, none⟩ = some (.int .u32 0) := hM1.cell 2
  have f16 := hM1.frozen 16
  have f2 := hM1.frozen 2
  have hltM := hM1.lt
  have hR1 := hs1.blk hR (by simp; omega)
  clear c2 hM hR
  go_wp2_with fail
  have hM2 : Blk (((w1.setCell ⟨M, 16, none⟩ (.slice (some ⟨R, 0, none⟩) (20 + (4 + L)) 120)).setCell ⟨M, 2, none⟩ (.int .u32 (4 + ↑L))).alloc (.cells #[.int .u16 t, .int .u16 ↑L, .slice (some ⟨R, 24, none⟩) L 96] 65)) M (msgC 1 (4 + ↑L) (.slice none 0 0) (.slice (some ⟨R, 0, none⟩) (20 + (4 + L)) 120)) 60 := by
    have h := ((hM1.set 16 (.slice (some ⟨R, 0, none⟩) (20 + (4 + L)) 120)).set 2 (.int .u32 (4 + ↑L))).alloc (.cells #[.int .u16 t, .int .u16 ↑L, .slice (some ⟨R, 24, none⟩) L 96] 65)
    rw [msgC_set16, msgC_set2] at h
    exact h
  have hR2 := ((hR1.set_other ⟨M, 16, none⟩ (.slice (some ⟨R, 0, none⟩) (20 + (4 + L)) 120) (Ne.symm hne)).set_other ⟨M, 2, none⟩ (.int .u32 (4 + ↑L)) (Ne.symm hne)).alloc (.cells #[.int .u16 t, .int .u16 ↑L, .slice (some ⟨R, 24, none⟩) L 96] 65)
  have hA2 := Blk.new ((w1.setCell ⟨M, 16, none⟩ (.slice (some ⟨R, 0, none⟩) (20 + (4 + L)) 120)).setCell ⟨M, 2, none⟩ (.int .u32 (4 + ↑L))) #[.int .u16 t, .int .u16 ↑L, .slice (some ⟨R, 24, none⟩) L 96] 65
  have hs2 : Step [M, R] w _ := (((hs1.mono (by simp)).set ⟨M, 16, none⟩ (.slice (some ⟨R, 0, none⟩) (20 + (4 + L)) 120) (Or.inl (by simp))).set ⟨M, 2, none⟩ (.int .u32 (4 + ↑L)) (Or.inl (by simp))).alloc (.cells #[.int .u16 t, .int .u16 ↑L, .slice (some ⟨R, 24, none⟩) L 96] 65)
  simp only [World.size_setCell] at hA2
  have hAM : M ≠ w1.heap.size := by omega
  have hAR : R ≠ w1.heap.size := by have := hR1.lt; omega
  have hAw : w.heap.size ≤ w1.heap.size := hs1.size
  clear hM1 hR1 hs1 c16 c2' f16 f2 hltM
  generalize w1.heap.size = A0 at hA2 hAM hAR hAw ⊢
  generalize (((w1.setCell ⟨M, 16, none⟩ (.slice (some ⟨R, 0, none⟩) (20 + (4 + L)) 120)).setCell ⟨M, 2, none⟩ (.int .u32 (4 + ↑L))).alloc (.cells #[.int .u16 t, .int .u16 ↑L, .slice (some ⟨R, 24, none⟩) L 96] 65)) = w2 at hM2 hR2 hA2 hs2 ⊢
  have a0 : w2.cell? ⟨A0, 0, none⟩ = some (.int .u16 t) := hA2.cell 0
  go_region_held3 (fun w' => w'.cell? ⟨A0, 0, none⟩ = some (.int .u16 t)) (first | go_keep | exact hk.cell 0)
    (first | (go_at_call 41; refine (value41 t _).mono ?_; rintro e w' ⟨rfl, rfl⟩) | (go_at_call 38; refine (put16 R 20 2 100 t cur _ ?_ (by omega) (by omega) ht ht2).mono ?_; exact Blk.drew hR2; rintro e w3 ⟨rfl, hs3, x, y, hR3⟩; have hk := hs3.blk (Blk.drew hA2) (by simpa using Ne.symm hAR)))
  have hM3 := hs3.blk (Blk.drew hM2) (by simpa using hne)
  have hst3 : Step [M, R] w w3 := (hs2.drew).trans (hs3.mono (by simp))
  generalize hc3 : (cur.setIfInBounds 20 x).setIfInBounds (20 + 1) y = cur3 at hR3
  have hz3 : cur3.size = 120 := by rw [← hc3]; simp [hsz]
  clear hc3 hM2 hR2 hA2 hs2 hs3 a0
  rename_i hheld
  clear hheld
  have a1 : w3.cell? ⟨A0, 1, none⟩ = some (.int .u16 L) := hk.cell 1
  go_wp2_with fail
  go_still_tail 5, (by kernel_rfl)
  change wpList _ _ _ _ _ w3.drew
  have hM4 := hM3.drew
  have hR4 := hR3.drew
  have hA4 := hk.drew
  have hs4 := hst3.drew
  clear a1
  generalize w3.drew = w4 at hM4 hR4 hA4 hs4 ⊢
  go_wp2_with fail
  refine (put16 R 22 2 98 L cur3 _ hR4 (by omega) (by omega) (by omega) (by omega)).mono ?_
  rintro e w5 ⟨rfl, hs5, x, y, hR5⟩
  have hM5 := hs5.blk hM4 (by simpa using hne)
  have hA5 := hs5.blk hA4 (by simpa using Ne.symm hAR)
  have hst5 : Step [M, R] w w5 := hs4.trans (hs5.mono (by simp))
  generalize hc5 : (cur3.setIfInBounds 22 x).setIfInBounds (22 + 1) y = cur5 at hR5
  have hz5 : cur5.size = 120 := by rw [← hc5]; simp [hz3]
  have hsrc : ∀ j v, vs[j]? = some v → w5.cell? ((⟨V, vo, none⟩ : Addr).add j) = some v := fun j v hj => by
    have e : ((⟨V, vo, none⟩ : Addr).add j) = ⟨V, vo + j, none⟩ := by unfold Addr.add; split <;> simp_all
    rw [e]; exact hst5.cell (HV.out j v hj) (by simp; exact ⟨hVM, hVR⟩)
  have Hsrc := Lib.hid hsrc
  have hcon := splice_con cur5 vs hz5 (by omega)
  clear hc5 hM4 hR4 hA4 hs4 hs5 hsrc
  have h120 := hcon.1
  generalize hc6 : (cur5.toList.take 24 ++ (vs ++ cur5.toList.drop (24 + vs.length))).toArray = cur6 at hcon
  have Hc6 := Lib.hid hc6
  clear hc6 h120
  have hM6 := hM5.row_other (g := R) cur6 hne
  have hA6 := hA5.row_other (g := R) cur6 (Ne.symm hAR)
  have hR6 := hR5.row cur6
  have hs6 := hst5.row R cur6 (Or.inl (by simp))
  have a1 : (w5.setRow R cur6).cell? ⟨A0, 1, none⟩ = some (.int .u16 L) := hA6.cell 1
  go_wp2_with (refine wpList_copy_own rfl (.tmp 75) (.tmp 76) 22 22 rfl 5 Tryd.underlying22 (by kernel_rfl) R 24 L 96 ⟨V, vo, none⟩ L vcap rfl rfl cur5 5 hR5 vs (by simp [hvs]) Hsrc.out (by omega) H1.out ?_; rw [Hc6.out]; generalize w5.setRow R cur6 = w6 at hM6 hA6 hR6 hs6 a1 ⊢; clear Hc6 Hsrc hM5 hA5 hst5 hR5 hz5)
  · have hp : (L : Int) % 4 ≠ 0 := by
      have h : ((L : Int) % 4 != 0) = true := by assumption
      simpa using h
    refine (padded_any ↑L _ (by omega) (by omega) hp).mono ?_
    rintro e w' ⟨rfl, rfl⟩
    obtain ⟨q, hq, hq1, hq2⟩ : ∃ q : Nat, 4 * ((L : Int) / 4) + 4 = (L : Int) + q ∧ 1 ≤ q ∧ q ≤ 3 := ⟨4 * (L / 4) + 4 - L, by omega, by omega, by omega⟩
    rw [hq]
    clear hq hp
    go_wp2_with fail
    rw [show (L : Int) + (q : Int) - (L : Int) = (q : Int) from by omega]
    refine (grow_room M R 1 (4 + ↑L) _ (20 + (4 + L)) _ _ hM6 (by omega) (by omega)).mono ?_
    rintro e w7 ⟨rfl, hs7, hM7⟩
    rw [show (20 + (4 + (L : Int)) + (q : Int)).toNat = 24 + L + q from by omega] at hM7
    have hA7 := hs7.blk hA6 (by simpa using Ne.symm hAM)
    have hR7 := hs7.blk hR6 (by simpa using Ne.symm hne)
    have hst7 : Step [M, R] w w7 := hs6.trans (hs7.mono (by simp))
    have c16 : w7.cell? ⟨M, 16, none⟩ = some (.slice (some ⟨R, 0, none⟩) (24 + L + q) 120) := hM7.cell 16
    clear hM6 hA6 hR6 hs6 a1 hs7
    go_wp2_with fail
    rw [show 20 + (4 + L) + q - (20 + (4 + L)) = q from by omega]
    have hq3 : (20 + (4 + L)) + q ≤ 120 := by omega
    clear c16
    go_loopw [105] (fun i wr => ∃ (k : Nat) (ck : Array Value), k ≤ q ∧ i = .int .i64 k ∧ Step [M, R] w wr ∧ Blk wr M (msgC 1 (4 + ↑L) (.slice none 0 0) (.slice (some ⟨R, 0, none⟩) (24 + L + q) 120)) 60 ∧
      Blk wr A0 #[.int .u16 t, .int .u16 ↑L, .slice (some ⟨R, 24, none⟩) L 96] 65 ∧ Blk wr R ck 5 ∧ Con ck vs) (fun i _ => q - (intOf i).toNat)
    case atStart => exact ⟨0, cur6, by omega, rfl, hst7, hM7, hA7, hR7, hcon⟩
    case round =>
      obtain ⟨k, ck, hk1, rfl, hsk, hMk, hAk, hRk, hck⟩ := hrel
      clear hst7 hM7 hA7 hR7 hcon
      by_cases hlt : k < q
      · have cR : wr.cell? ⟨R, 20 + (4 + L) + k, none⟩ = some (ck[20 + (4 + L) + k]'(by have := hck.1; omega)) := hRk.at _
        have fR := hRk.frozen (20 + (4 + L) + k)
        go_wp2
        go_roundw
        case rel => exact ⟨k + 1, _, by omega, by go_num, hsk.set _ _ (Or.inl (by simp)), hMk.set_other _ _ hne, hAk.set_other _ _ (Ne.symm hAR), hRk.set _ _, hck.set _ _ (Or.inr (by omega))⟩
        case measure => simp [intOf]; omega
      · obtain rfl : k = q := by omega
        have c16 : wr.cell? ⟨M, 16, none⟩ = some (.slice (some ⟨R, 0, none⟩) (24 + L + k) 120) := hMk.cell 16
        have f16 := hMk.frozen 16
        have c2 : wr.cell? ⟨M, 2, none⟩ = some (.int .u32 (4 + ↑L)) := hMk.cell 2
        have f2 := hMk.frozen 2
        go_wp2_with fail
        have hM8 := (hMk.set 16 (.slice (some ⟨R, 0, none⟩) (20 + (4 + L) + k) 120)).set 2 (.int .u32 (4 + ↑L + ↑k))
        rw [msgC_set16, msgC_set2] at hM8
        have hA8 := (hAk.set_other ⟨M, 16, none⟩ (.slice (some ⟨R, 0, none⟩) (20 + (4 + L) + k) 120) (Ne.symm hAM)).set_other ⟨M, 2, none⟩ (.int .u32 (4 + ↑L + ↑k)) (Ne.symm hAM)
        have hR8 := (hRk.set_other ⟨M, 16, none⟩ (.slice (some ⟨R, 0, none⟩) (20 + (4 + L) + k) 120) (Ne.symm hne)).set_other ⟨M, 2, none⟩ (.int .u32 (4 + ↑L + ↑k)) (Ne.symm hne)
        have hs8 := (hsk.set ⟨M, 16, none⟩ (.slice (some ⟨R, 0, none⟩) (20 + (4 + L) + k) 120) (Or.inl (by simp))).set ⟨M, 2, none⟩ (.int .u32 (4 + ↑L + ↑k)) (Or.inl (by simp))
        clear c16 f16 c2 f2
        generalize (wr.setCell ⟨M, 16, none⟩ (.slice (some ⟨R, 0, none⟩) (20 + (4 + L) + k) 120)).setCell ⟨M, 2, none⟩ (.int .u32 (4 + ↑L + ↑k)) = w8 at hM8 hA8 hR8 hs8 ⊢
        have a0 : w8.cell? ⟨A0, 0, none⟩ = some (.int .u16 t) := hA8.cell 0
        have a1 : w8.cell? ⟨A0, 1, none⟩ = some (.int .u16 L) := hA8.cell 1
        have a2 : w8.cell? ⟨A0, 2, none⟩ = some (.slice (some ⟨R, 24, none⟩) L 96) := hA8.cell 2
        have c15 : w8.cell? ⟨M, 15, none⟩ = some (.slice none 0 0) := hM8.cell 15
        have hltM := hM8.lt
        have hltA := hA8.lt
        have hltR := hR8.lt
        go_region_law ((refine step_append_lies _ (by rfl) _ _ _ (by rfl) w8.heap.size 65 i0 z0 3 32 Tryd.underlying58 hi hz0 hz1 hz2 hz3z (by decide) (.slice none 0 0) 0 [] (by rfl) ⟨rfl, Or.inl ⟨rfl, rfl⟩⟩ ⟨w8.heap.size, 0, none⟩ 1 1 [.int .u16 t, .int .u16 L, .slice (some ⟨R, 24, none⟩) L 96] (by rfl) rfl (World.news_of_block (Blk.drew (Blk.new w8 #[.int .u16 t, .int .u16 L, .slice (some ⟨R, 24, none⟩) L 96] 65))) H1c (by decide) (by unfold maxLen; omega) (by omega) (by simp) (w8.heap.size + 1) (by simp) ?_; intro g gcap wz hown hgrow hat hlt; have kM := Blk.grown (Blk.drew (hM8.alloc (.cells #[.int .u16 t, .int .u16 L, .slice (some ⟨R, 24, none⟩) L 96] 65))) hgrow; have kR := Blk.grown (Blk.drew (hR8.alloc (.cells #[.int .u16 t, .int .u16 L, .slice (some ⟨R, 24, none⟩) L 96] 65))) hgrow; have kA := Blk.grown (Blk.drew (hA8.alloc (.cells #[.int .u16 t, .int .u16 L, .slice (some ⟨R, 24, none⟩) L 96] 65))) hgrow; have kS := ((hs8.alloc (.cells #[.int .u16 t, .int .u16 L, .slice (some ⟨R, 24, none⟩) L 96] 65)).drew).grown hgrow; have kc : wz.cell? ⟨M, 15, none⟩ = some (.slice none 0 0) := kM.cell 15; have kf := kM.frozen 15))
        all_goals
          obtain ⟨hgb, hgr⟩ : Blk2 wz g [.int .u16 t, .int .u16 L, .slice (some ⟨R, 24, none⟩) L 96] ∧ w8.heap.size ≤ g := own_row hown
          have hgM : g ≠ M := by omega
          have hgR : g ≠ R := by omega
          have kM2 := kM.set 15 (.slice (some ⟨g, 0, none⟩) 1 gcap)
          rw [msgC_set15] at kM2
          have kR2 := kR.set_other ⟨M, 15, none⟩ (.slice (some ⟨g, 0, none⟩) 1 gcap) (Ne.symm hne)
          have kS2 := kS.set ⟨M, 15, none⟩ (.slice (some ⟨g, 0, none⟩) 1 gcap) (Or.inl (by simp))
          have kg2 : (wz.setCell ⟨M, 15, none⟩ (.slice (some ⟨g, 0, none⟩) 1 gcap)).cell? ⟨g, 2, none⟩ = some (.slice (some ⟨R, 24, none⟩) L 96) := by
            rw [World.cell?_setCell_other _ _ _ _ (by intro e; injection e; omega)]; exact hgb.cell2
          clear kM kR kA kS kc kf hown hgrow hgb
          go_wp2_with fail
          refine (writeLength M R 1 (4 + ↑L + ↑k) _ (20 + (4 + L) + k) ck _ kM2 kR2 hne hck.1 (by omega) (by omega) (by omega) (by omega)).mono ?_
          rintro e we ⟨rfl, hse, hMe, x, y, hRe⟩
          go_wp2
          go_end0
          have hce := (hck.set 2 x (Or.inl (by omega))).set (2 + 1) y (Or.inl (by omega))
          exact ⟨rfl, kS2.trans (hse.mono (by simp)), g, gcap, _, _, _, hMe, hRe, hce.1, hce.2, hse.cell kg2 (by simpa using hgR)⟩

  · clear a1
    have a0 : w6.cell? ⟨A0, 0, none⟩ = some (.int .u16 t) := hA6.cell 0
    have a1 : w6.cell? ⟨A0, 1, none⟩ = some (.int .u16 L) := hA6.cell 1
    have a2 : w6.cell? ⟨A0, 2, none⟩ = some (.slice (some ⟨R, 24, none⟩) L 96) := hA6.cell 2
    have c15 : w6.cell? ⟨M, 15, none⟩ = some (.slice none 0 0) := hM6.cell 15
    have hltM := hM6.lt
    have hltA := hA6.lt
    have hltR := hR6.lt
    go_region_law ((refine step_append_lies _ (by rfl) _ _ _ (by rfl) w6.heap.size 65 i0 z0 3 32 Tryd.underlying58 hi hz0 hz1 hz2 hz3z (by decide) (.slice none 0 0) 0 [] (by rfl) ⟨rfl, Or.inl ⟨rfl, rfl⟩⟩ ⟨w6.heap.size, 0, none⟩ 1 1 [.int .u16 t, .int .u16 L, .slice (some ⟨R, 24, none⟩) L 96] (by rfl) rfl (World.news_of_block (Blk.drew (Blk.new w6 #[.int .u16 t, .int .u16 L, .slice (some ⟨R, 24, none⟩) L 96] 65))) H1c (by decide) (by unfold maxLen; omega) (by omega) (by simp) (w6.heap.size + 1) (by simp) ?_; intro g gcap wz hown hgrow hat hlt; have kM := Blk.grown (Blk.drew (hM6.alloc (.cells #[.int .u16 t, .int .u16 L, .slice (some ⟨R, 24, none⟩) L 96] 65))) hgrow; have kR := Blk.grown (Blk.drew (hR6.alloc (.cells #[.int .u16 t, .int .u16 L, .slice (some ⟨R, 24, none⟩) L 96] 65))) hgrow; have kA := Blk.grown (Blk.drew (hA6.alloc (.cells #[.int .u16 t, .int .u16 L, .slice (some ⟨R, 24, none⟩) L 96] 65))) hgrow; have kS := ((hs6.alloc (.cells #[.int .u16 t, .int .u16 L, .slice (some ⟨R, 24, none⟩) L 96] 65)).drew).grown hgrow; have kc : wz.cell? ⟨M, 15, none⟩ = some (.slice none 0 0) := kM.cell 15; have kf := kM.frozen 15))
    all_goals
      obtain ⟨hgb, hgr⟩ : Blk2 wz g [.int .u16 t, .int .u16 L, .slice (some ⟨R, 24, none⟩) L 96] ∧ w6.heap.size ≤ g := own_row hown
      have hgM : g ≠ M := by omega
      have hgR : g ≠ R := by omega
      have kM2 := kM.set 15 (.slice (some ⟨g, 0, none⟩) 1 gcap)
      rw [msgC_set15] at kM2
      have kR2 := kR.set_other ⟨M, 15, none⟩ (.slice (some ⟨g, 0, none⟩) 1 gcap) (Ne.symm hne)
      have kS2 := kS.set ⟨M, 15, none⟩ (.slice (some ⟨g, 0, none⟩) 1 gcap) (Or.inl (by simp))
      have kg2 : (wz.setCell ⟨M, 15, none⟩ (.slice (some ⟨g, 0, none⟩) 1 gcap)).cell? ⟨g, 2, none⟩ = some (.slice (some ⟨R, 24, none⟩) L 96) := by
        rw [World.cell?_setCell_other _ _ _ _ (by intro e; injection e; omega)]; exact hgb.cell2
      clear kM kR kA kS kc kf hown hgrow hgb
      go_wp2_with fail
      refine (writeLength M R 1 (4 + ↑L) _ (20 + (4 + L)) cur6 _ kM2 kR2 hne hcon.1 (by omega) (by omega) (by omega) (by omega)).mono ?_
      rintro e we ⟨rfl, hse, hMe, x, y, hRe⟩
      go_wp2
      go_end0
      have hce := (hcon.set 2 x (Or.inl (by omega))).set (2 + 1) y (Or.inl (by omega))
      exact ⟨rfl, kS2.trans (hse.mono (by simp)), g, gcap, _, _, _, hMe, hRe, hce.1, hce.2, hse.cell kg2 (by simpa using hgR)⟩

end Go.Proofs.YtnpakacfdffbpaaDoor
