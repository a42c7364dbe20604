/-
  The contracts of CheckOverflow, IsAttrSizeInvalid, IsAttrSizeOverflow and codeOf at the error of too large a size. Conditions: the sentinels are different errors, each as errors.New makes it.
-/
import Derived.Test.YtnpakacfdffbpaaDoorIs
import Derived.Test.YtnpakacfdffbpaaDoorMem
namespace Go.Proofs.YtnpakacfdffbpaaDoor
open Go.RowKit

/-- Package variable i holds the error at a, a whole new block's. -/
def Sent (w : World) (i : Nat) (a : Addr) : Prop := w.cell? ⟨i, 0, none⟩ = some (.iface 99 (.pointer (some a))) ∧ ∃ c t, w.heap[a.block]? = some (.cells c t (0, 0))

/-- The nine sentinels that codeOf looks at; a is that of too large a size, none of the others. -/
def Sents (w : World) (a : Addr) : Prop :=
  Sent w 10 a ∧ (∃ b, b ≠ a ∧ Sent w 0 b) ∧ (∃ b, b ≠ a ∧ Sent w 2 b) ∧ (∃ b, b ≠ a ∧ Sent w 3 b) ∧ (∃ b, b ≠ a ∧ Sent w 4 b) ∧ (∃ b, b ≠ a ∧ Sent w 5 b) ∧ (∃ b, b ≠ a ∧ Sent w 6 b) ∧
    (∃ b, b ≠ a ∧ Sent w 7 b) ∧ (∃ b, b ≠ a ∧ Sent w 9 b)

theorem Sent.step {w w' : World} {i : Nat} {a : Addr} (h : Sent w i a) (hs : Step [] w w') : Sent w' i a :=
  ⟨hs.cell h.1 (by simp), let ⟨c, t, hb⟩ := h.2; ⟨c, t, hs.heap hb (by simp)⟩⟩
theorem Sents.step {w w' : World} {a : Addr} (h : Sents w a) (hs : Step [] w w') : Sents w' a := by
  obtain ⟨h10, ⟨b0, n0, h0⟩, ⟨b2, n2, h2⟩, ⟨b3, n3, h3⟩, ⟨b4, n4, h4⟩, ⟨b5, n5, h5⟩, ⟨b6, n6, h6⟩, ⟨b7, n7, h7⟩, b9, n9, h9⟩ := h
  exact ⟨h10.step hs, ⟨b0, n0, h0.step hs⟩, ⟨b2, n2, h2.step hs⟩, ⟨b3, n3, h3.step hs⟩, ⟨b4, n4, h4.step hs⟩, ⟨b5, n5, h5.step hs⟩, ⟨b6, n6, h6.step hs⟩, ⟨b7, n7, h7.step hs⟩, b9, n9, h9.step hs⟩

theorem check_ok (t got most : Int) (w : World) (h : got ≤ most) : Calls Tryd.prog 36 #[.int .u16 t, .int .i64 got, .int .i64 most] w fun e w' => e = .returned .nilIface ∧ w = w' := by
  go_enter Tryd.func36, Tryd.ntmps36
  go_wp2
  go_ret
  exact ⟨rfl, rfl⟩

theorem check_over (t got most : Int) (a : Addr) (w : World) (h : most < got) (hc : w.cell? ⟨10, 0, none⟩ = some (.iface 99 (.pointer (some a)))) :
    Calls Tryd.prog 36 #[.int .u16 t, .int .i64 got, .int .i64 most] w fun e w' => e = .returned (.iface 99 (.pointer (some a))) ∧ w = w' := by
  go_enter Tryd.func36, Tryd.ntmps36
  go_wp2
  go_ret
  exact ⟨rfl, rfl⟩

theorem invalid_any (a b : Addr) (w : World) (hne : b ≠ a) (ha : Sent w 10 a) (hb : Sent w 9 b) :
    Calls Tryd.prog 34 #[.iface 99 (.pointer (some a))] w fun e w' => e = .returned (.bool false) ∧ w = w' := by
  obtain ⟨_, ca, ta, ha2⟩ := ha
  obtain ⟨hb1, cb, tb, hb2⟩ := hb
  go_enter Tryd.func34, Tryd.ntmps34
  go_wp2_with fail
  refine (is_other a b ca cb ta tb _ (Ne.symm hne) ha2 hb2).mono ?_
  rintro e w' ⟨rfl, rfl⟩
  go_wp2
  go_ret
  exact ⟨rfl, rfl⟩

theorem overflow_any (a : Addr) (w : World) (ha : w.cell? ⟨10, 0, none⟩ = some (.iface 99 (.pointer (some a)))) :
    Calls Tryd.prog 35 #[.iface 99 (.pointer (some a))] w fun e w' => e = .returned (.bool true) ∧ w = w' := by
  go_enter Tryd.func35, Tryd.ntmps35
  go_wp2_with fail
  refine (is_same a _).mono ?_
  rintro e w' ⟨rfl, rfl⟩
  go_wp2
  go_ret
  exact ⟨rfl, rfl⟩

/-- Two of the sentinels are not the same. -/
theorem neq_sent {w : World} {i j : Nat} {a b : Addr} (hne : b ≠ a) (ha : Sent w i a) (hb : Sent w j b) :
    (binOp .eql 37 (.iface 99 (.pointer (some a))) (.iface 99 (.pointer (some b)))).run Tryd.prog w = .ok (.bool false) w := by
  obtain ⟨i0, hi, hcmp⟩ := Option.map_eq_some_iff.1 Tryd.isComp
  obtain ⟨j0, hj, hjs⟩ := Option.map_eq_some_iff.1 Tryd.isSize
  obtain ⟨_, ca, ta, ha2⟩ := ha
  obtain ⟨_, cb, tb, hb2⟩ := hb
  exact run_eql_iface_ptr_other (P := Tryd.prog) w Tryd.underlying37 Tryd.underlying99 hi hcmp hj (by rw [hjs]; decide) (Ne.symm hne) ha2 hb2

set_option maxRecDepth 100000 in
set_option maxHeartbeats 800000 in
theorem codeOf_over (a : Addr) (w : World) (hs : Sents w a) : Calls Tryd.prog 25 #[.iface 99 (.pointer (some a))] w fun e w' => e = .returned (.int .i64 3) ∧ w = w' := by
  obtain ⟨h10, ⟨b0, n0, h0⟩, ⟨b2, n2, h2⟩, ⟨b3, n3, h3⟩, ⟨b4, n4, h4⟩, ⟨b5, n5, h5⟩, ⟨b6, n6, h6⟩, ⟨b7, n7, h7⟩, b9, n9, h9⟩ := hs
  have e0 := neq_sent n0 h10 h0
  have e2 := neq_sent n2 h10 h2
  have e3 := neq_sent n3 h10 h3
  have e4 := neq_sent n4 h10 h4
  have e5 := neq_sent n5 h10 h5
  have e6 := neq_sent n6 h10 h6
  have e7 := neq_sent n7 h10 h7
  have c0 := h0.1
  have c2 := h2.1
  have c3 := h3.1
  have c4 := h4.1
  have c5 := h5.1
  have c6 := h6.1
  have c7 := h7.1
  go_enter Tryd.func25, Tryd.ntmps25
  go_wp2_with (first | (go_at_call 34; refine (invalid_any a b9 _ n9 h10 h9).mono ?_; rintro e w' ⟨rfl, rfl⟩) | (go_at_call 35; refine (overflow_any a _ h10.1).mono ?_; rintro e w' ⟨rfl, rfl⟩))
  go_ret
  exact ⟨rfl, rfl⟩
end Go.Proofs.YtnpakacfdffbpaaDoor
