/-
  The contracts of the texts: []byte of a string, TextAttribute.AddToAs, added, copied, AddText (too long a text; a short one). Conditions: the sentinels are different errors.
-/
import Derived.Test.YtnpakacfdffbpaaDoorAdd
import Derived.Test.YtnpakacfdffbpaaDoorErr
import Derived.Lib.ConvBytes
import Derived.Lib.Hide
namespace Go.Proofs.YtnpakacfdffbpaaDoor
open Go.RowKit

/-- A string's bytes as values. -/
def vals (s : ByteArray) : List Value := s.data.toList.map fun c => .int .u8 (c.toNat : Int)
theorem vals_length (s : ByteArray) : (vals s).length = s.size := by simp [vals]
theorem vals_one (s : ByteArray) : ∀ v ∈ vals s, v.oneCell' = true := by
  intro v hv
  obtain ⟨c, _, rfl⟩ := List.mem_map.1 hv
  rfl

/-- The cells from o of block V on hold the values vs. -/
def Vals (w : World) (V o : Nat) (vs : List Value) : Prop := ∀ j v, vs[j]? = some v → w.cell? ⟨V, o + j, none⟩ = some v
theorem Vals.step {w w' : World} {V o : Nat} {vs : List Value} {S : List Nat} (h : Vals w V o vs) (hs : Step S w w') (hV : V ∉ S) : Vals w' V o vs := fun j v hj => hs.cell (h j v hj) hV
theorem Vals.lt {w : World} {V o : Nat} {vs : List Value} (h : Vals w V o vs) (hl : 0 < vs.length) : V < w.heap.size :=
  World.block_lt_of_cell? w _ (h 0 vs[0] (by simp [hl]))

/-- A new slice of the values vs, all else as it was. -/
def NewVals (vs : List Value) (n : Nat) (w : World) (e : Ending) (w' : World) : Prop :=
  ∃ (V cap : Nat), e = .returned (.slice (some ⟨V, 0, none⟩) n cap) ∧ Step [] w w' ∧ w.heap.size ≤ V ∧ Vals w' V 0 vs

theorem bytesWorld_step (w : World) (e : TypeId) (s : ByteArray) : Step [] w (Lib.bytesWorld w e s) :=
  ⟨rfl, rfl, rfl, by rw [Lib.bytesWorld_size]; omega, fun k hk _ => Lib.bytesWorld_at_old w e s k hk⟩
theorem bytesWorld_vals (w : World) (s : ByteArray) : Vals (Lib.bytesWorld w 5 s) w.heap.size 0 (vals s) := fun j v hj => by
  have hlt : j < s.size := by
    have := (List.getElem?_eq_some_iff.1 hj).1
    rwa [vals_length] at this
  rw [Nat.zero_add, Lib.bytesWorld_cell w 5 s j hlt, ← hj]
  have h2 : j < s.data.toList.length := by simpa using hlt
  simp [vals, List.getElem?_eq_getElem h2]

/-- copied: a new slice of the same values. -/
theorem copied_any (B o L cap : Nat) (vs : List Value) (w : World) (hl : vs.length = L) (hL : 1 ≤ L) (hL2 : L ≤ 4096) (hv : Vals w B o vs) (h1 : ∀ v ∈ vs, v.oneCell' = true) :
    Calls Tryd.prog 26 #[.slice (some ⟨B, o, none⟩) L cap] w (NewVals vs L w) := by
  obtain ⟨i0, z0, hi, hz0, hz1, hz2, hz3⟩ := Tryd.info5
  have hnews : ∀ j u, vs[j]? = some u → w.cell? ((⟨B, o, none⟩ : Addr).add j) = some u := fun j u hj => by
    have e : ((⟨B, o, none⟩ : Addr).add j) = ⟨B, o + j, none⟩ := by unfold Addr.add; split <;> simp_all
    rw [e]; exact hv j u hj
  have Hn := Lib.hid hnews
  have H1 := Lib.hid h1
  have Hl := Lib.hid hl
  clear hnews h1 hv hl
  go_enter Tryd.func26, Tryd.ntmps26
  go_wp2_with (at_builtin; refine wpList_append_lies _ rfl (.const (.slice none 0 0)) (.tmp 3) 22 rfl w.heap.size 5 i0 z0 1 1 Tryd.underlying22 hi hz0 hz1 hz2 hz3 (by decide) (.slice none 0 0) 0 [] rfl ⟨rfl, Or.inl ⟨rfl, rfl⟩⟩ ⟨B, o, none⟩ L cap vs rfl (by rw [Hl.out]; omega) Hn.out H1.out (by omega) (by unfold maxLen; omega) (by omega) (Nat.le_refl _) w.heap.size rfl ?_; intro g gcap wz hown hgrow hat hlt)
  go_ret
  rw [Nat.zero_add] at hown
  exact ⟨g, gcap, rfl, (Step.refl _ _).grown hgrow, own_ge hown (by omega), own_vals hown (by rw [Hl.out])⟩

/-- AddToAs: too long a text. -/
theorem addToAs_over (V vo L cap : Nat) (M : Nat) (t most : Int) (a : Addr) (w : World) (h : most < (L : Int)) (hc : w.cell? ⟨10, 0, none⟩ = some (.iface 99 (.pointer (some a)))) :
    Calls Tryd.prog 27 #[.slice (some ⟨V, vo, none⟩) L cap, .pointer (some ⟨M, 0, none⟩), .int .u16 t, .int .i64 most] w fun e w' => e = .returned (.iface 99 (.pointer (some a))) ∧ w = w' := by
  have hn : (binOp .neq 37 (.iface 99 (.pointer (some a))) .nilIface).run Tryd.prog w = .ok (.bool true) w := by kernel_rfl
  go_enter Tryd.func27, Tryd.ntmps27
  go_wp2_with fail
  refine (check_over t L most a _ h hc).mono ?_
  rintro e w' ⟨rfl, rfl⟩
  go_wp2
  go_ret
  exact ⟨rfl, rfl⟩

/-- A message of begun, with its bytes. -/
def Fresh (w : World) (M R : Nat) : Prop :=
  ∃ cur : Array Value, M ≠ R ∧ cur.size = 120 ∧ Blk w M (msgC 1 0 (.slice none 0 0) (.slice (some ⟨R, 0, none⟩) 20 120)) 60 ∧ Blk w R cur 5
theorem Fresh.step {w w' : World} {M R : Nat} (h : Fresh w M R) (hs : Step [] w w') : Fresh w' M R := by
  obtain ⟨cur, hne, hsz, hM, hR⟩ := h
  exact ⟨cur, hne, hsz, hs.blk hM (by simp), hs.blk hR (by simp)⟩

def NilAdded (M R L : Nat) (vs : List Value) (w : World) (e : Ending) (w' : World) : Prop := e = .returned .nilIface ∧ AddedW M R L vs w w'

/-- AddToAs: a text that is not too long. -/
theorem addToAs_ok (V L cap : Nat) (M R : Nat) (t most : Int) (vs : List Value) (w : World) (hF : Fresh w M R) (hl : vs.length = L) (hL : 1 ≤ L) (hL2 : L ≤ 90) (h : (L : Int) ≤ most) (hv : Vals w V 0 vs) (h1 : ∀ v ∈ vs, v.oneCell' = true) (hVM : V ≠ M) (hVR : V ≠ R) (ht : 0 ≤ t) (ht2 : t < 65536) :
    Calls Tryd.prog 27 #[.slice (some ⟨V, 0, none⟩) L cap, .pointer (some ⟨M, 0, none⟩), .int .u16 t, .int .i64 most] w (NilAdded M R L vs w) := by
  obtain ⟨cur, hne, hsz, hM, hR⟩ := hF
  have Hv := Lib.hid hv
  have H1 := Lib.hid h1
  have Hl := Lib.hid hl
  clear hv h1 hl
  go_enter Tryd.func27, Tryd.ntmps27
  go_wp2_with fail
  refine (check_ok t L most _ h).mono ?_
  rintro e w' ⟨rfl, rfl⟩
  go_wp2_with fail
  refine (add_any M R V 0 L cap t cur vs _ hM hR hne hsz hL hL2 Hl.out Hv.out hVM hVR H1.out ht ht2).mono ?_
  rintro e w' ⟨rfl, ha⟩
  go_wp2
  go_ret
  exact ⟨rfl, ha⟩

theorem user_new (s : ByteArray) (w : World) : Calls Tryd.prog 12 #[.string s] w (NewVals (vals s) s.size w) := by
  have hc := fun w => Lib.run_convert_string_bytes (P := Tryd.prog) w 9 38 5 s Tryd.underlying9 Tryd.underlying38 Tryd.underlying5
  go_enter Tryd.func12, Tryd.ntmps12
  go_wp2
  go_ret
  exact ⟨w.heap.size, _, rfl, bytesWorld_step _ _ _, Nat.le_refl _, bytesWorld_vals w s⟩

theorem user_over (V L cap M : Nat) (a : Addr) (w : World) (h : (513 : Int) < (L : Int)) (hc : w.cell? ⟨10, 0, none⟩ = some (.iface 99 (.pointer (some a)))) :
    Calls Tryd.prog 13 #[.slice (some ⟨V, 0, none⟩) L cap, .pointer (some ⟨M, 0, none⟩)] w fun e w' => e = .returned (.iface 99 (.pointer (some a))) ∧ w = w' := by
  go_enter Tryd.func13, Tryd.ntmps13
  go_wp2_with fail
  refine (addToAs_over V 0 L cap M 6 513 a _ h hc).mono ?_
  rintro e w' ⟨rfl, rfl⟩
  go_wp2
  go_ret
  exact ⟨rfl, rfl⟩

theorem user_ok (V L cap M R : Nat) (vs : List Value) (w : World) (hF : Fresh w M R) (hl : vs.length = L) (hL : 1 ≤ L) (hL2 : L ≤ 90) (hv : Vals w V 0 vs) (h1 : ∀ v ∈ vs, v.oneCell' = true) (hVM : V ≠ M) (hVR : V ≠ R) :
    Calls Tryd.prog 13 #[.slice (some ⟨V, 0, none⟩) L cap, .pointer (some ⟨M, 0, none⟩)] w (NilAdded M R L vs w) := by
  have Hv := Lib.hid hv
  have H1 := Lib.hid h1
  have Hl := Lib.hid hl
  clear hv h1 hl
  go_enter Tryd.func13, Tryd.ntmps13
  go_wp2_with fail
  refine (addToAs_ok V L cap M R 6 513 vs _ hF Hl.out hL hL2 (by omega) Hv.out H1.out hVM hVR (by omega) (by omega)).mono ?_
  rintro e w' ⟨rfl, ha⟩
  go_wp2
  go_ret
  exact ⟨rfl, ha⟩

theorem realm_new (s : ByteArray) (w : World) : Calls Tryd.prog 14 #[.string s] w (NewVals (vals s) s.size w) := by
  have hc := fun w => Lib.run_convert_string_bytes (P := Tryd.prog) w 9 41 5 s Tryd.underlying9 Tryd.underlying41 Tryd.underlying5
  go_enter Tryd.func14, Tryd.ntmps14
  go_wp2
  go_ret
  exact ⟨w.heap.size, _, rfl, bytesWorld_step _ _ _, Nat.le_refl _, bytesWorld_vals w s⟩

theorem realm_over (V L cap M : Nat) (a : Addr) (w : World) (h : (763 : Int) < (L : Int)) (hc : w.cell? ⟨10, 0, none⟩ = some (.iface 99 (.pointer (some a)))) :
    Calls Tryd.prog 15 #[.slice (some ⟨V, 0, none⟩) L cap, .pointer (some ⟨M, 0, none⟩)] w fun e w' => e = .returned (.iface 99 (.pointer (some a))) ∧ w = w' := by
  go_enter Tryd.func15, Tryd.ntmps15
  go_wp2_with fail
  refine (addToAs_over V 0 L cap M 20 763 a _ h hc).mono ?_
  rintro e w' ⟨rfl, rfl⟩
  go_wp2
  go_ret
  exact ⟨rfl, rfl⟩

theorem realm_ok (V L cap M R : Nat) (vs : List Value) (w : World) (hF : Fresh w M R) (hl : vs.length = L) (hL : 1 ≤ L) (hL2 : L ≤ 90) (hv : Vals w V 0 vs) (h1 : ∀ v ∈ vs, v.oneCell' = true) (hVM : V ≠ M) (hVR : V ≠ R) :
    Calls Tryd.prog 15 #[.slice (some ⟨V, 0, none⟩) L cap, .pointer (some ⟨M, 0, none⟩)] w (NilAdded M R L vs w) := by
  have Hv := Lib.hid hv
  have H1 := Lib.hid h1
  have Hl := Lib.hid hl
  clear hv h1 hl
  go_enter Tryd.func15, Tryd.ntmps15
  go_wp2_with fail
  refine (addToAs_ok V L cap M R 20 763 vs _ hF Hl.out hL hL2 (by omega) Hv.out H1.out hVM hVR (by omega) (by omega)).mono ?_
  rintro e w' ⟨rfl, ha⟩
  go_wp2
  go_ret
  exact ⟨rfl, ha⟩

theorem nonce_new (s : ByteArray) (w : World) : Calls Tryd.prog 16 #[.string s] w (NewVals (vals s) s.size w) := by
  have hc := fun w => Lib.run_convert_string_bytes (P := Tryd.prog) w 9 43 5 s Tryd.underlying9 Tryd.underlying43 Tryd.underlying5
  go_enter Tryd.func16, Tryd.ntmps16
  go_wp2
  go_ret
  exact ⟨w.heap.size, _, rfl, bytesWorld_step _ _ _, Nat.le_refl _, bytesWorld_vals w s⟩

theorem nonce_over (V L cap M : Nat) (a : Addr) (w : World) (h : (763 : Int) < (L : Int)) (hc : w.cell? ⟨10, 0, none⟩ = some (.iface 99 (.pointer (some a)))) :
    Calls Tryd.prog 17 #[.slice (some ⟨V, 0, none⟩) L cap, .pointer (some ⟨M, 0, none⟩)] w fun e w' => e = .returned (.iface 99 (.pointer (some a))) ∧ w = w' := by
  go_enter Tryd.func17, Tryd.ntmps17
  go_wp2_with fail
  refine (addToAs_over V 0 L cap M 21 763 a _ h hc).mono ?_
  rintro e w' ⟨rfl, rfl⟩
  go_wp2
  go_ret
  exact ⟨rfl, rfl⟩

theorem nonce_ok (V L cap M R : Nat) (vs : List Value) (w : World) (hF : Fresh w M R) (hl : vs.length = L) (hL : 1 ≤ L) (hL2 : L ≤ 90) (hv : Vals w V 0 vs) (h1 : ∀ v ∈ vs, v.oneCell' = true) (hVM : V ≠ M) (hVR : V ≠ R) :
    Calls Tryd.prog 17 #[.slice (some ⟨V, 0, none⟩) L cap, .pointer (some ⟨M, 0, none⟩)] w (NilAdded M R L vs w) := by
  have Hv := Lib.hid hv
  have H1 := Lib.hid h1
  have Hl := Lib.hid hl
  clear hv h1 hl
  go_enter Tryd.func17, Tryd.ntmps17
  go_wp2_with fail
  refine (addToAs_ok V L cap M R 21 763 vs _ hF Hl.out hL hL2 (by omega) Hv.out H1.out hVM hVR (by omega) (by omega)).mono ?_
  rintro e w' ⟨rfl, ha⟩
  go_wp2
  go_ret
  exact ⟨rfl, ha⟩

theorem soft_new (s : ByteArray) (w : World) : Calls Tryd.prog 18 #[.string s] w (NewVals (vals s) s.size w) := by
  have hc := fun w => Lib.run_convert_string_bytes (P := Tryd.prog) w 9 45 5 s Tryd.underlying9 Tryd.underlying45 Tryd.underlying5
  go_enter Tryd.func18, Tryd.ntmps18
  go_wp2
  go_ret
  exact ⟨w.heap.size, _, rfl, bytesWorld_step _ _ _, Nat.le_refl _, bytesWorld_vals w s⟩

theorem soft_over (V L cap M : Nat) (a : Addr) (w : World) (h : (763 : Int) < (L : Int)) (hc : w.cell? ⟨10, 0, none⟩ = some (.iface 99 (.pointer (some a)))) :
    Calls Tryd.prog 19 #[.slice (some ⟨V, 0, none⟩) L cap, .pointer (some ⟨M, 0, none⟩)] w fun e w' => e = .returned (.iface 99 (.pointer (some a))) ∧ w = w' := by
  go_enter Tryd.func19, Tryd.ntmps19
  go_wp2_with fail
  refine (addToAs_over V 0 L cap M 32802 763 a _ h hc).mono ?_
  rintro e w' ⟨rfl, rfl⟩
  go_wp2
  go_ret
  exact ⟨rfl, rfl⟩

theorem soft_ok (V L cap M R : Nat) (vs : List Value) (w : World) (hF : Fresh w M R) (hl : vs.length = L) (hL : 1 ≤ L) (hL2 : L ≤ 90) (hv : Vals w V 0 vs) (h1 : ∀ v ∈ vs, v.oneCell' = true) (hVM : V ≠ M) (hVR : V ≠ R) :
    Calls Tryd.prog 19 #[.slice (some ⟨V, 0, none⟩) L cap, .pointer (some ⟨M, 0, none⟩)] w (NilAdded M R L vs w) := by
  have Hv := Lib.hid hv
  have H1 := Lib.hid h1
  have Hl := Lib.hid hl
  clear hv h1 hl
  go_enter Tryd.func19, Tryd.ntmps19
  go_wp2_with fail
  refine (addToAs_ok V L cap M R 32802 763 vs _ hF Hl.out hL hL2 (by omega) Hv.out H1.out hVM hVR (by omega) (by omega)).mono ?_
  rintro e w' ⟨rfl, ha⟩
  go_wp2
  go_ret
  exact ⟨rfl, ha⟩

/-- added at an error of too large a size. -/
theorem added_err (M : Nat) (a : Addr) (w : World) (hs : Sents w a) :
    Calls Tryd.prog 11 #[.pointer (some ⟨M, 0, none⟩), .iface 99 (.pointer (some a))] w fun e w' => e = .returned (.tuple #[.slice none 0 0, .int .i64 3]) ∧ w = w' := by
  have hn : (binOp .neq 37 (.iface 99 (.pointer (some a))) .nilIface).run Tryd.prog w = .ok (.bool true) w := by kernel_rfl
  go_enter Tryd.func11, Tryd.ntmps11
  go_wp2_with fail
  refine (codeOf_over a _ hs).mono ?_
  rintro e w' ⟨rfl, rfl⟩
  go_wp2
  go_ret2
  exact ⟨rfl, rfl⟩

/-- The value of the only attribute, and no error. -/
def Value0 (vs : List Value) (n : Nat) (w : World) (e : Ending) (w' : World) : Prop :=
  ∃ (V cap : Nat), e = .returned (.tuple #[.slice (some ⟨V, 0, none⟩) n cap, .int .i64 0]) ∧ Step [] w w' ∧ w.heap.size ≤ V ∧ Vals w' V 0 vs

/-- added behind Add. -/
theorem added_ok (M R L : Nat) (vs : List Value) (w0 w : World) (ha : AddedW M R L vs w0 w) (hl : vs.length = L) (hL : 1 ≤ L) (hL2 : L ≤ 4096) (h1 : ∀ v ∈ vs, v.oneCell' = true) :
    Calls Tryd.prog 11 #[.pointer (some ⟨M, 0, none⟩), .nilIface] w (Value0 vs L w) := by
  obtain ⟨_, A, acap, rl, len, cur, hM, hR, hsz, hv, hA⟩ := ha
  have c15 : w.cell? ⟨M, 15, none⟩ = some (.slice (some ⟨A, 0, none⟩) 1 acap) := hM.cell 15
  have hvals : Vals w R 24 vs := fun j v hj => by rw [hR.cell]; exact hv j v hj
  have Hv := Lib.hid hvals
  have H1 := Lib.hid h1
  have Hl := Lib.hid hl
  clear hv hvals h1 hl hsz
  go_enter Tryd.func11, Tryd.ntmps11
  go_wp2_with fail
  refine (copied_any R 24 L 96 vs _ Hl.out hL hL2 Hv.out H1.out).mono ?_
  rintro e w' ⟨V, cap, rfl, hs, hV, hv⟩
  have Hv2 := Lib.hid hv
  clear hv
  go_wp2
  go_ret2
  exact ⟨V, cap, rfl, hs, hV, Hv2.out⟩

/-- AddText: no value, and the code of too large a size. -/
def TooLong (w : World) (e : Ending) (w' : World) : Prop := e = .returned (.tuple #[.slice none 0 0, .int .i64 3]) ∧ Step [] w w'
/-- AddText: some value, and no error. -/
def Fine (w : World) (e : Ending) (w' : World) : Prop := ∃ v : Value, e = .returned (.tuple #[v, .int .i64 0]) ∧ Step [] w w'

set_option maxRecDepth 100000 in
set_option maxHeartbeats 800000 in
theorem user_long (s : ByteArray) (a : Addr) (w : World) (hs : Sents w a) (h : 513 < s.size) : Calls Tryd.prog 5 #[.int .i64 0, .string s] w (TooLong w) := by
  go_enter Tryd.func5, Tryd.ntmps5
  go_wp2_with fail
  refine (begun_any _).mono ?_
  rintro e w1 ⟨M, R, cur, rfl, hs1, hbM, hbR, hne, hsz, hM1, hR1⟩
  go_wp2_with fail
  refine (user_new s _).mono ?_
  rintro e w2 ⟨V, cap, rfl, hs2, hV, hv⟩
  clear hv
  have hs12 := hs1.trans hs2
  have hS := hs.step hs12
  go_wp2_with fail
  refine (user_over V s.size cap M a _ (by omega) hS.1.1).mono ?_
  rintro e w3 ⟨rfl, rfl⟩
  go_wp2_with fail
  refine (added_err M a _ hS).mono ?_
  rintro e w4 ⟨rfl, rfl⟩
  go_wp2
  go_ret2
  exact ⟨rfl, hs12⟩

set_option maxRecDepth 100000 in
set_option maxHeartbeats 800000 in
theorem user_short (s : ByteArray) (w : World) (h0 : 1 ≤ s.size) (h : s.size ≤ 90) : Calls Tryd.prog 5 #[.int .i64 0, .string s] w (Fine w) := by
  go_enter Tryd.func5, Tryd.ntmps5
  go_wp2_with fail
  refine (begun_any _).mono ?_
  rintro e w1 ⟨M, R, cur, rfl, hs1, hbM, hbR, hne, hsz, hM1, hR1⟩
  have hF1 : Fresh w1 M R := ⟨cur, hne, hsz, hM1, hR1⟩
  have hltM := hM1.lt
  have hltR := hR1.lt
  go_wp2_with fail
  refine (user_new s _).mono ?_
  rintro e w2 ⟨V, cap, rfl, hs2, hV, hv⟩
  have Hv := Lib.hid hv
  clear hv
  have hF2 := hF1.step hs2
  go_wp2_with fail
  refine (user_ok V s.size cap M R (vals s) _ hF2 (vals_length s) h0 h Hv.out (vals_one s) (by omega) (by omega)).mono ?_
  rintro e w3 ⟨rfl, ha⟩
  go_wp2_with fail
  refine (added_ok M R s.size (vals s) w2 _ ha (vals_length s) h0 (by omega) (vals_one s)).mono ?_
  rintro e w4 ⟨V4, cap4, rfl, hs4, _, _⟩
  go_wp2
  go_ret2
  exact ⟨_, rfl, ((hs1.trans hs2).trans' ha.1 (by simp; omega)).trans hs4⟩

set_option maxRecDepth 100000 in
set_option maxHeartbeats 800000 in
theorem realm_long (s : ByteArray) (a : Addr) (w : World) (hs : Sents w a) (h : 763 < s.size) : Calls Tryd.prog 5 #[.int .i64 1, .string s] w (TooLong w) := by
  go_enter Tryd.func5, Tryd.ntmps5
  go_wp2_with fail
  refine (begun_any _).mono ?_
  rintro e w1 ⟨M, R, cur, rfl, hs1, hbM, hbR, hne, hsz, hM1, hR1⟩
  go_wp2_with fail
  refine (realm_new s _).mono ?_
  rintro e w2 ⟨V, cap, rfl, hs2, hV, hv⟩
  clear hv
  have hs12 := hs1.trans hs2
  have hS := hs.step hs12
  go_wp2_with fail
  refine (realm_over V s.size cap M a _ (by omega) hS.1.1).mono ?_
  rintro e w3 ⟨rfl, rfl⟩
  go_wp2_with fail
  refine (added_err M a _ hS).mono ?_
  rintro e w4 ⟨rfl, rfl⟩
  go_wp2
  go_ret2
  exact ⟨rfl, hs12⟩

set_option maxRecDepth 100000 in
set_option maxHeartbeats 800000 in
theorem realm_short (s : ByteArray) (w : World) (h0 : 1 ≤ s.size) (h : s.size ≤ 90) : Calls Tryd.prog 5 #[.int .i64 1, .string s] w (Fine w) := by
  go_enter Tryd.func5, Tryd.ntmps5
  go_wp2_with fail
  refine (begun_any _).mono ?_
  rintro e w1 ⟨M, R, cur, rfl, hs1, hbM, hbR, hne, hsz, hM1, hR1⟩
  have hF1 : Fresh w1 M R := ⟨cur, hne, hsz, hM1, hR1⟩
  have hltM := hM1.lt
  have hltR := hR1.lt
  go_wp2_with fail
  refine (realm_new s _).mono ?_
  rintro e w2 ⟨V, cap, rfl, hs2, hV, hv⟩
  have Hv := Lib.hid hv
  clear hv
  have hF2 := hF1.step hs2
  go_wp2_with fail
  refine (realm_ok V s.size cap M R (vals s) _ hF2 (vals_length s) h0 h Hv.out (vals_one s) (by omega) (by omega)).mono ?_
  rintro e w3 ⟨rfl, ha⟩
  go_wp2_with fail
  refine (added_ok M R s.size (vals s) w2 _ ha (vals_length s) h0 (by omega) (vals_one s)).mono ?_
  rintro e w4 ⟨V4, cap4, rfl, hs4, _, _⟩
  go_wp2
  go_ret2
  exact ⟨_, rfl, ((hs1.trans hs2).trans' ha.1 (by simp; omega)).trans hs4⟩

set_option maxRecDepth 100000 in
set_option maxHeartbeats 800000 in
theorem nonce_long (s : ByteArray) (a : Addr) (w : World) (hs : Sents w a) (h : 763 < s.size) : Calls Tryd.prog 5 #[.int .i64 2, .string s] w (TooLong w) := by
  go_enter Tryd.func5, Tryd.ntmps5
  go_wp2_with fail
  refine (begun_any _).mono ?_
  rintro e w1 ⟨M, R, cur, rfl, hs1, hbM, hbR, hne, hsz, hM1, hR1⟩
  go_wp2_with fail
  refine (nonce_new s _).mono ?_
  rintro e w2 ⟨V, cap, rfl, hs2, hV, hv⟩
  clear hv
  have hs12 := hs1.trans hs2
  have hS := hs.step hs12
  go_wp2_with fail
  refine (nonce_over V s.size cap M a _ (by omega) hS.1.1).mono ?_
  rintro e w3 ⟨rfl, rfl⟩
  go_wp2_with fail
  refine (added_err M a _ hS).mono ?_
  rintro e w4 ⟨rfl, rfl⟩
  go_wp2
  go_ret2
  exact ⟨rfl, hs12⟩

set_option maxRecDepth 100000 in
set_option maxHeartbeats 800000 in
theorem nonce_short (s : ByteArray) (w : World) (h0 : 1 ≤ s.size) (h : s.size ≤ 90) : Calls Tryd.prog 5 #[.int .i64 2, .string s] w (Fine w) := by
  go_enter Tryd.func5, Tryd.ntmps5
  go_wp2_with fail
  refine (begun_any _).mono ?_
  rintro e w1 ⟨M, R, cur, rfl, hs1, hbM, hbR, hne, hsz, hM1, hR1⟩
  have hF1 : Fresh w1 M R := ⟨cur, hne, hsz, hM1, hR1⟩
  have hltM := hM1.lt
  have hltR := hR1.lt
  go_wp2_with fail
  refine (nonce_new s _).mono ?_
  rintro e w2 ⟨V, cap, rfl, hs2, hV, hv⟩
  have Hv := Lib.hid hv
  clear hv
  have hF2 := hF1.step hs2
  go_wp2_with fail
  refine (nonce_ok V s.size cap M R (vals s) _ hF2 (vals_length s) h0 h Hv.out (vals_one s) (by omega) (by omega)).mono ?_
  rintro e w3 ⟨rfl, ha⟩
  go_wp2_with fail
  refine (added_ok M R s.size (vals s) w2 _ ha (vals_length s) h0 (by omega) (vals_one s)).mono ?_
  rintro e w4 ⟨V4, cap4, rfl, hs4, _, _⟩
  go_wp2
  go_ret2
  exact ⟨_, rfl, ((hs1.trans hs2).trans' ha.1 (by simp; omega)).trans hs4⟩

set_option maxRecDepth 100000 in
set_option maxHeartbeats 800000 in
theorem soft_long (s : ByteArray) (a : Addr) (w : World) (hs : Sents w a) (h : 763 < s.size) : Calls Tryd.prog 5 #[.int .i64 3, .string s] w (TooLong w) := by
  go_enter Tryd.func5, Tryd.ntmps5
  go_wp2_with fail
  refine (begun_any _).mono ?_
  rintro e w1 ⟨M, R, cur, rfl, hs1, hbM, hbR, hne, hsz, hM1, hR1⟩
  go_wp2_with fail
  refine (soft_new s _).mono ?_
  rintro e w2 ⟨V, cap, rfl, hs2, hV, hv⟩
  clear hv
  have hs12 := hs1.trans hs2
  have hS := hs.step hs12
  go_wp2_with fail
  refine (soft_over V s.size cap M a _ (by omega) hS.1.1).mono ?_
  rintro e w3 ⟨rfl, rfl⟩
  go_wp2_with fail
  refine (added_err M a _ hS).mono ?_
  rintro e w4 ⟨rfl, rfl⟩
  go_wp2
  go_ret2
  exact ⟨rfl, hs12⟩

set_option maxRecDepth 100000 in
set_option maxHeartbeats 800000 in
theorem soft_short (s : ByteArray) (w : World) (h0 : 1 ≤ s.size) (h : s.size ≤ 90) : Calls Tryd.prog 5 #[.int .i64 3, .string s] w (Fine w) := by
  go_enter Tryd.func5, Tryd.ntmps5
  go_wp2_with fail
  refine (begun_any _).mono ?_
  rintro e w1 ⟨M, R, cur, rfl, hs1, hbM, hbR, hne, hsz, hM1, hR1⟩
  have hF1 : Fresh w1 M R := ⟨cur, hne, hsz, hM1, hR1⟩
  have hltM := hM1.lt
  have hltR := hR1.lt
  go_wp2_with fail
  refine (soft_new s _).mono ?_
  rintro e w2 ⟨V, cap, rfl, hs2, hV, hv⟩
  have Hv := Lib.hid hv
  clear hv
  have hF2 := hF1.step hs2
  go_wp2_with fail
  refine (soft_ok V s.size cap M R (vals s) _ hF2 (vals_length s) h0 h Hv.out (vals_one s) (by omega) (by omega)).mono ?_
  rintro e w3 ⟨rfl, ha⟩
  go_wp2_with fail
  refine (added_ok M R s.size (vals s) w2 _ ha (vals_length s) h0 (by omega) (vals_one s)).mono ?_
  rintro e w4 ⟨V4, cap4, rfl, hs4, _, _⟩
  go_wp2
  go_ret2
  exact ⟨_, rfl, ((hs1.trans hs2).trans' ha.1 (by simp; omega)).trans hs4⟩

end Go.Proofs.YtnpakacfdffbpaaDoor
