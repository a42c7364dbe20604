/-
  The contracts of ErrorCodeAttribute.AddTo, ErrorCode.AddTo and DefaultReason at a number that has a reason: the value is two zeros, the class, the number, and the reason. Conditions: the number has a reason (300 to 508, of 1 to 30 bytes).
-/
import Derived.Test.YtnpakacfdffbpaaDoorReason
import Derived.WalkSpells
import Derived.StillTailTactics
namespace Go.Proofs.YtnpakacfdffbpaaDoor
open Go.RowKit

/-- The bytes of the value of an error. -/
def codeInts (n : Int) (s : ByteArray) : List Int := 0 :: 0 :: (n / 100) :: (n % 100) :: s.data.toList.map fun c => (c.toNat : Int)
def codeVals (n : Int) (s : ByteArray) : List Value := (codeInts n s).map (Value.int .u8)
theorem codeVals_eq (n : Int) (s : ByteArray) : codeVals n s = .int .u8 0 :: .int .u8 0 :: .int .u8 (n / 100) :: .int .u8 (n % 100) :: vals s := by simp [codeVals, codeInts, vals]
theorem codeVals_length (n : Int) (s : ByteArray) : (codeVals n s).length = 4 + s.size := by simp [codeVals, codeInts]; omega
theorem codeVals_one (n : Int) (s : ByteArray) : ∀ v ∈ codeVals n s, v.oneCell' = true := by
  intro v hv
  obtain ⟨c, _, rfl⟩ := List.mem_map.1 hv
  rfl

/-- The block of the value, as it is made. -/
def raw767 : Array Value := madeCells #[.int .u8 0] 767
theorem raw767_list : raw767.toList = List.replicate 767 (.int .u8 0) := toList_madeCells_one _ _
theorem raw767_size : raw767.size = 767 := size_madeCells _ _
theorem raw767_at (j : Nat) (h : j < 767) : raw767[j]? = some (.int .u8 0) := by
  rw [← Array.getElem?_toList, raw767_list, List.getElem?_replicate, if_pos h]
theorem Tryd.info5z : (Tryd.prog.info? 5).map (fun i => (i.zero, i.size, i.bytes)) = some (some (.int .u8 0), 1, 1) := by kernel_rfl
theorem make767 (w : World) : (Instr.makeSlice 22 (.int .i64 0) (.int .i64 767)).run Tryd.prog w = .ok (.slice (some ⟨w.heap.size, 0, none⟩) 0 767) (w.alloc (.cells raw767 5)) := by
  obtain ⟨i0, hi, hz0, hz1, hz2⟩ := info_parts Tryd.info5z
  have h := run_makeSlice w 22 5 i0 (.int .u8 0) Tryd.underlying22 hi hz0 .i64 .i64 0 767 (by omega) (by omega) (by rw [hz1]; decide) (by rw [hz2]; decide) (by omega)
  rw [hz1] at h
  exact h

theorem raw767_four (c m : Value) : ((raw767.setIfInBounds 2 c).setIfInBounds 3 m).toList.take 4 = [.int .u8 0, .int .u8 0, c, m] := by
  rw [Array.toList_setIfInBounds, Array.toList_setIfInBounds, raw767_list, show 767 = 763 + 1 + 1 + 1 + 1 from rfl]
  generalize 763 = k
  simp only [List.replicate_succ, List.set_cons_succ, List.set_cons_zero, List.take_succ_cons, List.take_zero]

/-- Behind the copy of the reason the value stands in its block. -/
theorem value_vals (n : Int) (s : ByteArray) (V : Nat) (w : World) (h : Blk w V (((raw767.setIfInBounds 2 (.int .u8 (n / 100))).setIfInBounds 3 (.int .u8 (n % 100))).toList.take 4 ++ (vals s ++ ((raw767.setIfInBounds 2 (.int .u8 (n / 100))).setIfInBounds 3 (.int .u8 (n % 100))).toList.drop (4 + (vals s).length))).toArray 5) :
    Vals w V 0 (codeVals n s) := fun j v hj => by
  rw [Nat.zero_add, h.cell, List.getElem?_toArray, raw767_four]
  have hlt : j < (codeVals n s).length := (List.getElem?_eq_some_iff.1 hj).1
  rw [← List.append_assoc, show [Value.int .u8 0, .int .u8 0, .int .u8 (n / 100), .int .u8 (n % 100)] ++ vals s = codeVals n s from (codeVals_eq n s).symm, List.getElem?_append_left hlt]
  exact hj

theorem Fresh.far {w w' : World} {M R : Nat} {S : List Nat} (h : Fresh w M R) (hs : Step S w w') (hM : M ∉ S) (hR : R ∉ S) : Fresh w' M R := by
  obtain ⟨cur, hne, hsz, h1, h2⟩ := h
  exact ⟨cur, hne, hsz, hs.blk h1 hM, hs.blk h2 hR⟩

set_option maxRecDepth 100000 in
set_option maxHeartbeats 800000 in
theorem attr_add (n : Int) (s : ByteArray) (Q qcap M R : Nat) (w : World) (hn : 300 ≤ n) (hn2 : n ≤ 508) (h1 : 1 ≤ s.size) (h2 : s.size ≤ 30) (hF : Fresh w M R) (hv : Vals w Q 0 (vals s)) :
    Calls Tryd.prog 29 #[.agg #[.int .i64 n, .slice (some ⟨Q, 0, none⟩) s.size qcap], .pointer (some ⟨M, 0, none⟩)] w (NilAdded M R (4 + s.size) (codeVals n s) w) := by
  have hmk := make767
  have Hv := Lib.hid hv
  clear hv
  go_enter Tryd.func29, Tryd.ntmps29
  go_wp2_with fail
  refine (check_ok 9 _ 767 _ (by omega)).mono ?_
  rintro e w' ⟨rfl, he⟩
  have hB := (Blk.new w #[.int .i64 n, .slice (some ⟨Q, 0, none⟩) s.size qcap] 71).alloc (.cells raw767 5)
  have hV := Blk.new (w.alloc (.cells #[.int .i64 n, .slice (some ⟨Q, 0, none⟩) s.size qcap] 71)) raw767 5
  simp only [World.size_alloc] at hV
  have hs1 : Step [] w _ := ((Step.refl [] w).alloc (.cells #[.int .i64 n, .slice (some ⟨Q, 0, none⟩) s.size qcap] 71)).alloc (.cells raw767 5)
  rw [he] at hB hV hs1
  clear he hmk
  have hB0 : w.heap.size < w.heap.size + 1 := by omega
  have hQ : Q < w.heap.size := Hv.out.lt (by rw [vals_length]; omega)
  have hF1 := hF.step hs1
  have hMlt : M < w.heap.size := by obtain ⟨_, _, _, h, _⟩ := hF; exact h.lt
  have hRlt : R < w.heap.size := by obtain ⟨_, _, _, _, h⟩ := hF; exact h.lt
  clear hF
  have hvw := Hv.out.step hs1 (by simp)
  have Hvw := Lib.hid hvw
  clear hvw Hv
  have c0 : w'.cell? ⟨w.heap.size, 0, none⟩ = some (.int .i64 n) := hB.cell 0
  have c1 : w'.cell? ⟨w.heap.size, 1, none⟩ = some (.slice (some ⟨Q, 0, none⟩) s.size qcap) := hB.cell 1
  have v2 : w'.cell? ⟨w.heap.size + 1, 2, none⟩ = some (.int .u8 0) := by rw [hV.cell]; exact raw767_at 2 (by omega)
  have v3 : w'.cell? ⟨w.heap.size + 1, 3, none⟩ = some (.int .u8 0) := by rw [hV.cell]; exact raw767_at 3 (by omega)
  have f2 := hV.frozen 2
  have f3 := hV.frozen 3
  go_wp2_with fail
  clear c0 c1 v2 v3 f2 f3
  have hV2 := (hV.set 2 (.int .u8 (n / 100))).set 3 (.int .u8 (n % 100))
  have hB2 := (hB.set_other ⟨w.heap.size + 1, 2, none⟩ (.int .u8 (n / 100)) (Nat.ne_of_lt hB0)).set_other ⟨w.heap.size + 1, 3, none⟩ (.int .u8 (n % 100)) (Nat.ne_of_lt hB0)
  have hsV : Step [w.heap.size + 1] w' _ := ((Step.refl _ w').set ⟨w.heap.size + 1, 2, none⟩ (.int .u8 (n / 100)) (Or.inl (by simp))).set ⟨w.heap.size + 1, 3, none⟩ (.int .u8 (n % 100)) (Or.inl (by simp))
  have hF2 := hF1.far hsV (by simp; omega) (by simp; omega)
  have hv2 := Hvw.out.step hsV (by simp; omega)
  have hs2 : Step [] w _ := hs1.trans' hsV (by simp)
  clear hV hB hF1 hs1 hsV Hvw
  have hBw : w.heap.size ≤ w.heap.size := Nat.le_refl _
  generalize hVV : w.heap.size + 1 = V at hV2 hB2 hF2 hv2 hs2 hB0 ⊢
  have hVM : V ≠ M := by omega
  have hVR : V ≠ R := by omega
  have hVQ : Q ≠ V := by omega
  have hVw : w.heap.size ≤ V := by omega
  clear hVV
  generalize (w'.setCell ⟨V, 2, none⟩ (.int .u8 (n / 100))).setCell ⟨V, 3, none⟩ (.int .u8 (n % 100)) = w2 at hV2 hB2 hF2 hv2 hs2 ⊢
  have Hv2 := Lib.hid hv2
  clear hv2
  have c1 : w2.cell? ⟨w.heap.size, 1, none⟩ = some (.slice (some ⟨Q, 0, none⟩) s.size qcap) := hB2.cell 1
  have b1 : (4 : Int) ≤ 4 + (s.size : Int) := by omega
  have b2 : 4 + (s.size : Int) ≤ 767 := by omega
  go_still_tail 4, (by kernel_rfl)
  change wpList _ _ _ _ _ w2.drew
  have hV3 := hV2.drew
  have hF3 := hF2.step (Step.refl [] w2).drew
  have hv3 := Hv2.out.step (Step.refl [] w2).drew (by simp)
  have hs3 := hs2.drew
  clear c1 hB2 hV2 hF2 Hv2 hs2
  generalize w2.drew = w3 at hV3 hF3 hv3 hs3 ⊢
  have hsrc : ∀ j v, (vals s)[j]? = some v → w3.cell? ((⟨Q, 0, none⟩ : Addr).add j) = some v := fun j v hj => by
    have e : ((⟨Q, 0, none⟩ : Addr).add j) = ⟨Q, 0 + j, none⟩ := by unfold Addr.add; split <;> simp_all
    rw [e]; exact hv3 j v hj
  refine wpList_copy_own rfl (.tmp 50) (.tmp 52) 22 22 rfl 5 Tryd.underlying22 (by kernel_rfl) V 4 _ _ ⟨Q, 0, none⟩ s.size qcap rfl rfl _ 5 hV3 (vals s) (by rw [vals_length]; exact (Nat.min_eq_left (by omega)).symm) hsrc (by rw [vals_length]; simp [raw767_size]; omega) (vals_one s) ?_
  have hV4 := hV3.row (((raw767.setIfInBounds 2 (.int .u8 (n / 100))).setIfInBounds 3 (.int .u8 (n % 100))).toList.take 4 ++ (vals s ++ ((raw767.setIfInBounds 2 (.int .u8 (n / 100))).setIfInBounds 3 (.int .u8 (n % 100))).toList.drop (4 + (vals s).length))).toArray
  have hsV4 : Step [V] w3 _ := (Step.refl _ w3).row V (((raw767.setIfInBounds 2 (.int .u8 (n / 100))).setIfInBounds 3 (.int .u8 (n % 100))).toList.take 4 ++ (vals s ++ ((raw767.setIfInBounds 2 (.int .u8 (n / 100))).setIfInBounds 3 (.int .u8 (n % 100))).toList.drop (4 + (vals s).length))).toArray (Or.inl (by simp))
  have hval := value_vals n s V _ hV4
  have hF4 := hF3.far hsV4 (by simpa using Ne.symm hVM) (by simpa using Ne.symm hVR)
  have hs4 : Step [] w _ := hs3.trans' hsV4 (by simpa using hVw)
  clear hV3 hF3 hv3 hs3 hsrc hV4 hsV4
  generalize w3.setRow V _ = w4 at hval hF4 hs4 ⊢
  have Hval := Lib.hid hval
  clear hval
  go_wp2_with fail
  obtain ⟨cur, hne, hsz, hM5, hR5⟩ := hF4
  refine (add_any M R V 0 (4 + s.size) 767 9 cur (codeVals n s) _ hM5 hR5 hne hsz (by omega) (by omega) (codeVals_length n s) Hval.out hVM hVR (codeVals_one n s) (by omega) (by omega)).mono ?_
  rintro e w5 ⟨rfl, ha⟩
  go_wp2
  go_ret
  exact ⟨rfl, (hs4.mono (by simp)).trans ha.1, ha.2⟩

set_option maxRecDepth 100000 in
set_option maxHeartbeats 800000 in
theorem code_add (n : Int) (s : ByteArray) (M R : Nat) (w : World) (h : HasReason n s) (hF : Fresh w M R) :
    Calls Tryd.prog 20 #[.int .i64 n, .pointer (some ⟨M, 0, none⟩)] w (NilAdded M R (4 + s.size) (codeVals n s) w) := by
  obtain ⟨⟨hn, hn2, h1, h2⟩, _, h28⟩ := h
  have H28 := Lib.hid h28
  clear h28
  have hnil := fun (w : World) (a : Option Addr) (n c : Nat) => Lib.run_eql_slice_nil (P := Tryd.prog) w 22 5 a n c 0 0 Tryd.underlying22
  go_enter Tryd.func20, Tryd.ntmps20
  go_wp2_with fail
  refine (H28.out _).mono ?_
  rintro e w1 ⟨Q, qcap, rfl, hs1, hQ, hv⟩
  have hF1 := hF.step hs1
  have Hv := Lib.hid hv
  clear hv hF
  go_wp2_with fail
  have hal : Step [] w1 (w1.alloc (.cells #[.int .i64 n, .slice (some ⟨Q, 0, none⟩) s.size qcap] 71)) := (Step.refl [] w1).alloc _
  refine (attr_add n s Q qcap M R _ hn hn2 h1 h2 (hF1.step hal) (Hv.out.step hal (by simp))).mono ?_
  rintro e w2 ⟨rfl, ha⟩
  go_wp2
  go_ret
  exact ⟨rfl, ((hs1.trans hal).mono (by simp)).trans ha.1, ha.2⟩

set_option maxRecDepth 100000 in
set_option maxHeartbeats 800000 in
/-- DefaultReason at a number that has a reason. -/
theorem default_any (n : Int) (s : ByteArray) (w : World) (h : HasReason n s) : Calls Tryd.prog 7 #[.int .i64 n] w (Value0 (codeVals n s) (4 + s.size) w) := by
  have hsz : s.size ≤ 30 := h.1.2.2.2
  have Hh := Lib.hid h
  clear h
  go_enter Tryd.func7, Tryd.ntmps7
  go_wp2_with fail
  refine (begun_any _).mono ?_
  rintro e w1 ⟨M, R, cur, rfl, hs1, hbM, hbR, hne, hsz1, hM1, hR1⟩
  have hF1 : Fresh w1 M R := ⟨cur, hne, hsz1, hM1, hR1⟩
  clear hM1 hR1 hsz1
  go_wp2_with fail
  refine (code_add n s M R _ Hh.out hF1).mono ?_
  rintro e w2 ⟨rfl, ha⟩
  go_wp2_with fail
  refine (added_ok M R (4 + s.size) (codeVals n s) w1 _ ha (codeVals_length n s) (by omega) (by omega) (codeVals_one n s)).mono ?_
  rintro e w3 ⟨V, cap, rfl, hs3, hV, hv⟩
  have Hv := Lib.hid hv
  clear hv
  go_wp2
  go_ret2
  have hs12 : Step [] w w2 := hs1.trans' ha.1 (by simp; omega)
  exact ⟨V, cap, rfl, hs12.trans hs3, Nat.le_trans hs12.size hV, Hv.out⟩

theorem own_new (w : World) (xs : List Value) (n : Nat) (h : xs.length = n) (hm : n ≤ maxLen) : (w.alloc (.cells xs.toArray 5)).ownsRow w.heap.size 5 1 (.slice (some ⟨w.heap.size, 0, none⟩) n n) n xs :=
  ⟨by simp [h], Or.inr ⟨w.heap.size, n, xs.toArray, rfl, Nat.le_refl _, Blk.new w xs.toArray 5, Nat.le_refl _, hm, by simp [h], by simp [← h]⟩⟩
theorem own_vals' {w : World} {B g n cap : Nat} {e : TypeId} {xs ys : List Value} (h : w.ownsRow B e 1 (.slice (some ⟨g, 0, none⟩) n cap) n xs) (hx : xs = ys) (hl : ys.length = n) : Vals w g 0 ys := by
  subst hx
  exact own_vals (xs := xs) (by simpa using h) hl

set_option maxRecDepth 100000 in
set_option maxHeartbeats 800000 in
/-- spec.ErrorCode: the same values. -/
theorem specCode_any (n : Int) (s : ByteArray) (Q qcap : Nat) (w : World) (hn : 300 ≤ n) (hn2 : n ≤ 508) (h1 : 1 ≤ s.size) (h2 : s.size ≤ 30) (hv : Vals w Q 0 (vals s)) :
    Calls Tryd.prog 9 #[.int .i64 n, .slice (some ⟨Q, 0, none⟩) s.size qcap] w (NewVals (codeVals n s) (4 + s.size) w) := by
  obtain ⟨i0, z0, hi, hz0, hz1, hz2, hz3⟩ := Tryd.info5
  have hown := own_new w [.int .u8 0, .int .u8 0, .int .u8 (n / 100), .int .u8 (n % 100)] 4 rfl (by decide)
  have hal : Step [] w (w.alloc (.cells #[.int .u8 0, .int .u8 0, .int .u8 (n / 100), .int .u8 (n % 100)] 5)) := (Step.refl [] w).alloc _
  have hv1 := hv.step hal (by simp)
  have hnews : ∀ j u, (vals s)[j]? = some u → (w.alloc (.cells #[.int .u8 0, .int .u8 0, .int .u8 (n / 100), .int .u8 (n % 100)] 5)).cell? ((⟨Q, 0, none⟩ : Addr).add j) = some u := fun j u hj => by
    have e : ((⟨Q, 0, none⟩ : Addr).add j) = ⟨Q, 0 + j, none⟩ := by unfold Addr.add; split <;> simp_all
    rw [e]; exact hv1 j u hj
  have Hown := Lib.hid hown
  have Hn := Lib.hid hnews
  have Hl := Lib.hid (vals_length s)
  have H1 := Lib.hid (vals_one s)
  clear hv hv1 hnews hown
  go_enter Tryd.func9, Tryd.ntmps9
  go_wp2_with (at_builtin; refine wpList_append_lies _ rfl (.tmp 11) (.tmp 12) 22 rfl w.heap.size 5 i0 z0 1 1 Tryd.underlying22 hi hz0 hz1 hz2 hz3 (by decide) (.slice (some ⟨w.heap.size, 0, none⟩) 4 4) 4 [.int .u8 0, .int .u8 0, .int .u8 (n / 100), .int .u8 (n % 100)] rfl Hown.out ⟨Q, 0, none⟩ s.size qcap (vals s) rfl (by rw [Hl.out]; omega) Hn.out H1.out (by omega) (by unfold maxLen; omega) (by omega) (by simp) (w.heap.size + 1) (by simp) ?_; intro g gcap wz hown hgrow hat hlt)
  go_ret
  have hs : Step [] w wz := hal.trans' ⟨hgrow.os, hgrow.tape, hgrow.output, hgrow.size, fun k hk hk2 => hgrow.block k hk (by intro e; injection e with e; subst e; exact hk2 (List.mem_singleton.2 rfl))⟩ (T := [w.heap.size]) (by simp)
  exact ⟨g, gcap, rfl, hs, own_ge hown (by omega), own_vals' hown (codeVals_eq n s).symm (codeVals_length n s)⟩

/-- laws.same at two slices of the same bytes. -/
theorem same_any (xs : List Int) (A B acap bcap L : Nat) (w : World) (hl : xs.length = L) (ha : Vals w A 0 (xs.map (Value.int .u8))) (hb : Vals w B 0 (xs.map (Value.int .u8))) :
    Calls Tryd.prog 8 #[.slice (some ⟨A, 0, none⟩) L acap, .slice (some ⟨B, 0, none⟩) L bcap] w fun e w' => e = .returned (.bool true) ∧ w = w' := by
  have cell : ∀ X, Vals w X 0 (xs.map (Value.int .u8)) → ∀ i, i < L → w.cell? ⟨X, 0 + i, none⟩ = some (.int .u8 (xs.getD i 0)) := fun X hX i hi => by
    refine hX i _ ?_
    rw [List.getElem?_map, List.getD, List.getElem?_eq_getElem (by omega)]
    rfl
  have ca := run_convert_bytes_arg (P := Tryd.prog) w 22 5 Tryd.underlying22 Tryd.underlying5 A 0 L acap xs hl (cell A ha) 9 Tryd.underlying9
  have cb := run_convert_bytes_arg (P := Tryd.prog) w 22 5 Tryd.underlying22 Tryd.underlying5 B 0 L bcap xs hl (cell B hb) 9 Tryd.underlying9
  clear cell ha hb hl
  go_enter Tryd.func8, Tryd.ntmps8
  go_wp2
  go_ret
  simp
end Go.Proofs.YtnpakacfdffbpaaDoor
