/-
  The contracts of spec.Reason and stun.errorReason: at each of the thirteen numbers both tell the same text; at every other number spec.Reason tells none. No condition.
-/
import Derived.Test.YtnpakacfdffbpaaDoorText
import Derived.Lib.SlBytesConst
namespace Go.Proofs.YtnpakacfdffbpaaDoor
open Go.RowKit

/-- What the two functions tell of a number that has a reason. -/
def HasReason (n : Int) (s : ByteArray) : Prop :=
  (300 ≤ n ∧ n ≤ 508 ∧ 1 ≤ s.size ∧ s.size ≤ 30) ∧ (∀ w, Calls Tryd.prog 6 #[.int .i64 n] w fun e w' => e = .returned (.tuple #[.string s, .bool true]) ∧ w = w') ∧
    ∀ w, Calls Tryd.prog 28 #[.int .i64 n] w (NewVals (vals s) s.size w)

theorem marked_vals (w : World) (C : Array Value) (fr : Nat × Nat) : Vals (w.alloc (.cells C 5 fr)) w.heap.size 0 C.toList := fun j v hj => by
  have hb : (w.alloc (.cells C 5 fr)).heap[w.heap.size]? = some (.cells C 5 fr) := by
    show (w.heap.push _)[w.heap.size]? = _
    simp
  rw [Nat.zero_add, cell_of_row _ w.heap.size j C 5 fr hb]
  simpa using hj

/-- Try Alternate -/
abbrev s300 : ByteArray := { data := #[84, 114, 121, 32, 65, 108, 116, 101, 114, 110, 97, 116, 101] }
set_option maxRecDepth 100000 in
set_option maxHeartbeats 800000 in
theorem has_300 : HasReason 300 s300 := by
  refine ⟨⟨by decide, by decide, by decide, by decide⟩, fun w => ?_, fun w => ?_⟩
  · go_enter Tryd.func6, Tryd.ntmps6
    go_wp2
    go_ret2
    exact ⟨rfl, rfl⟩
  · have kc := fun (w : World) (C : Array Value) (n c : Nat) => Lib.run_convert_bytes_const (P := Tryd.prog) w 22 5 C n c Tryd.underlying22 Tryd.underlying5
    go_enter Tryd.func28, Tryd.ntmps28
    go_wp2
    go_ret
    exact ⟨w.heap.size, _, rfl, (Step.refl _ _).alloc _, Nat.le_refl _, marked_vals w _ _⟩

/-- Bad Request -/
abbrev s400 : ByteArray := { data := #[66, 97, 100, 32, 82, 101, 113, 117, 101, 115, 116] }
set_option maxRecDepth 100000 in
set_option maxHeartbeats 800000 in
theorem has_400 : HasReason 400 s400 := by
  refine ⟨⟨by decide, by decide, by decide, by decide⟩, fun w => ?_, fun w => ?_⟩
  · go_enter Tryd.func6, Tryd.ntmps6
    go_wp2
    go_ret2
    exact ⟨rfl, rfl⟩
  · have kc := fun (w : World) (C : Array Value) (n c : Nat) => Lib.run_convert_bytes_const (P := Tryd.prog) w 22 5 C n c Tryd.underlying22 Tryd.underlying5
    go_enter Tryd.func28, Tryd.ntmps28
    go_wp2
    go_ret
    exact ⟨w.heap.size, _, rfl, (Step.refl _ _).alloc _, Nat.le_refl _, marked_vals w _ _⟩

/-- Unauthorized -/
abbrev s401 : ByteArray := { data := #[85, 110, 97, 117, 116, 104, 111, 114, 105, 122, 101, 100] }
set_option maxRecDepth 100000 in
set_option maxHeartbeats 800000 in
theorem has_401 : HasReason 401 s401 := by
  refine ⟨⟨by decide, by decide, by decide, by decide⟩, fun w => ?_, fun w => ?_⟩
  · go_enter Tryd.func6, Tryd.ntmps6
    go_wp2
    go_ret2
    exact ⟨rfl, rfl⟩
  · have kc := fun (w : World) (C : Array Value) (n c : Nat) => Lib.run_convert_bytes_const (P := Tryd.prog) w 22 5 C n c Tryd.underlying22 Tryd.underlying5
    go_enter Tryd.func28, Tryd.ntmps28
    go_wp2
    go_ret
    exact ⟨w.heap.size, _, rfl, (Step.refl _ _).alloc _, Nat.le_refl _, marked_vals w _ _⟩

/-- Forbidden -/
abbrev s403 : ByteArray := { data := #[70, 111, 114, 98, 105, 100, 100, 101, 110] }
set_option maxRecDepth 100000 in
set_option maxHeartbeats 800000 in
theorem has_403 : HasReason 403 s403 := by
  refine ⟨⟨by decide, by decide, by decide, by decide⟩, fun w => ?_, fun w => ?_⟩
  · go_enter Tryd.func6, Tryd.ntmps6
    go_wp2
    go_ret2
    exact ⟨rfl, rfl⟩
  · have kc := fun (w : World) (C : Array Value) (n c : Nat) => Lib.run_convert_bytes_const (P := Tryd.prog) w 22 5 C n c Tryd.underlying22 Tryd.underlying5
    go_enter Tryd.func28, Tryd.ntmps28
    go_wp2
    go_ret
    exact ⟨w.heap.size, _, rfl, (Step.refl _ _).alloc _, Nat.le_refl _, marked_vals w _ _⟩

/-- Unknown Attribute -/
abbrev s420 : ByteArray := { data := #[85, 110, 107, 110, 111, 119, 110, 32, 65, 116, 116, 114, 105, 98, 117, 116, 101] }
set_option maxRecDepth 100000 in
set_option maxHeartbeats 800000 in
theorem has_420 : HasReason 420 s420 := by
  refine ⟨⟨by decide, by decide, by decide, by decide⟩, fun w => ?_, fun w => ?_⟩
  · go_enter Tryd.func6, Tryd.ntmps6
    go_wp2
    go_ret2
    exact ⟨rfl, rfl⟩
  · have kc := fun (w : World) (C : Array Value) (n c : Nat) => Lib.run_convert_bytes_const (P := Tryd.prog) w 22 5 C n c Tryd.underlying22 Tryd.underlying5
    go_enter Tryd.func28, Tryd.ntmps28
    go_wp2
    go_ret
    exact ⟨w.heap.size, _, rfl, (Step.refl _ _).alloc _, Nat.le_refl _, marked_vals w _ _⟩

/-- Allocation Mismatch -/
abbrev s437 : ByteArray := { data := #[65, 108, 108, 111, 99, 97, 116, 105, 111, 110, 32, 77, 105, 115, 109, 97, 116, 99, 104] }
set_option maxRecDepth 100000 in
set_option maxHeartbeats 800000 in
theorem has_437 : HasReason 437 s437 := by
  refine ⟨⟨by decide, by decide, by decide, by decide⟩, fun w => ?_, fun w => ?_⟩
  · go_enter Tryd.func6, Tryd.ntmps6
    go_wp2
    go_ret2
    exact ⟨rfl, rfl⟩
  · have kc := fun (w : World) (C : Array Value) (n c : Nat) => Lib.run_convert_bytes_const (P := Tryd.prog) w 22 5 C n c Tryd.underlying22 Tryd.underlying5
    go_enter Tryd.func28, Tryd.ntmps28
    go_wp2
    go_ret
    exact ⟨w.heap.size, _, rfl, (Step.refl _ _).alloc _, Nat.le_refl _, marked_vals w _ _⟩

/-- Stale Nonce -/
abbrev s438 : ByteArray := { data := #[83, 116, 97, 108, 101, 32, 78, 111, 110, 99, 101] }
set_option maxRecDepth 100000 in
set_option maxHeartbeats 800000 in
theorem has_438 : HasReason 438 s438 := by
  refine ⟨⟨by decide, by decide, by decide, by decide⟩, fun w => ?_, fun w => ?_⟩
  · go_enter Tryd.func6, Tryd.ntmps6
    go_wp2
    go_ret2
    exact ⟨rfl, rfl⟩
  · have kc := fun (w : World) (C : Array Value) (n c : Nat) => Lib.run_convert_bytes_const (P := Tryd.prog) w 22 5 C n c Tryd.underlying22 Tryd.underlying5
    go_enter Tryd.func28, Tryd.ntmps28
    go_wp2
    go_ret
    exact ⟨w.heap.size, _, rfl, (Step.refl _ _).alloc _, Nat.le_refl _, marked_vals w _ _⟩

/-- Wrong Credentials -/
abbrev s441 : ByteArray := { data := #[87, 114, 111, 110, 103, 32, 67, 114, 101, 100, 101, 110, 116, 105, 97, 108, 115] }
set_option maxRecDepth 100000 in
set_option maxHeartbeats 800000 in
theorem has_441 : HasReason 441 s441 := by
  refine ⟨⟨by decide, by decide, by decide, by decide⟩, fun w => ?_, fun w => ?_⟩
  · go_enter Tryd.func6, Tryd.ntmps6
    go_wp2
    go_ret2
    exact ⟨rfl, rfl⟩
  · have kc := fun (w : World) (C : Array Value) (n c : Nat) => Lib.run_convert_bytes_const (P := Tryd.prog) w 22 5 C n c Tryd.underlying22 Tryd.underlying5
    go_enter Tryd.func28, Tryd.ntmps28
    go_wp2
    go_ret
    exact ⟨w.heap.size, _, rfl, (Step.refl _ _).alloc _, Nat.le_refl _, marked_vals w _ _⟩

/-- Unsupported Transport Protocol -/
abbrev s442 : ByteArray := { data := #[85, 110, 115, 117, 112, 112, 111, 114, 116, 101, 100, 32, 84, 114, 97, 110, 115, 112, 111, 114, 116, 32, 80, 114, 111, 116, 111, 99, 111, 108] }
set_option maxRecDepth 100000 in
set_option maxHeartbeats 800000 in
theorem has_442 : HasReason 442 s442 := by
  refine ⟨⟨by decide, by decide, by decide, by decide⟩, fun w => ?_, fun w => ?_⟩
  · go_enter Tryd.func6, Tryd.ntmps6
    go_wp2
    go_ret2
    exact ⟨rfl, rfl⟩
  · have kc := fun (w : World) (C : Array Value) (n c : Nat) => Lib.run_convert_bytes_const (P := Tryd.prog) w 22 5 C n c Tryd.underlying22 Tryd.underlying5
    go_enter Tryd.func28, Tryd.ntmps28
    go_wp2
    go_ret
    exact ⟨w.heap.size, _, rfl, (Step.refl _ _).alloc _, Nat.le_refl _, marked_vals w _ _⟩

/-- Allocation Quota Reached -/
abbrev s486 : ByteArray := { data := #[65, 108, 108, 111, 99, 97, 116, 105, 111, 110, 32, 81, 117, 111, 116, 97, 32, 82, 101, 97, 99, 104, 101, 100] }
set_option maxRecDepth 100000 in
set_option maxHeartbeats 800000 in
theorem has_486 : HasReason 486 s486 := by
  refine ⟨⟨by decide, by decide, by decide, by decide⟩, fun w => ?_, fun w => ?_⟩
  · go_enter Tryd.func6, Tryd.ntmps6
    go_wp2
    go_ret2
    exact ⟨rfl, rfl⟩
  · have kc := fun (w : World) (C : Array Value) (n c : Nat) => Lib.run_convert_bytes_const (P := Tryd.prog) w 22 5 C n c Tryd.underlying22 Tryd.underlying5
    go_enter Tryd.func28, Tryd.ntmps28
    go_wp2
    go_ret
    exact ⟨w.heap.size, _, rfl, (Step.refl _ _).alloc _, Nat.le_refl _, marked_vals w _ _⟩

/-- Role Conflict -/
abbrev s487 : ByteArray := { data := #[82, 111, 108, 101, 32, 67, 111, 110, 102, 108, 105, 99, 116] }
set_option maxRecDepth 100000 in
set_option maxHeartbeats 800000 in
theorem has_487 : HasReason 487 s487 := by
  refine ⟨⟨by decide, by decide, by decide, by decide⟩, fun w => ?_, fun w => ?_⟩
  · go_enter Tryd.func6, Tryd.ntmps6
    go_wp2
    go_ret2
    exact ⟨rfl, rfl⟩
  · have kc := fun (w : World) (C : Array Value) (n c : Nat) => Lib.run_convert_bytes_const (P := Tryd.prog) w 22 5 C n c Tryd.underlying22 Tryd.underlying5
    go_enter Tryd.func28, Tryd.ntmps28
    go_wp2
    go_ret
    exact ⟨w.heap.size, _, rfl, (Step.refl _ _).alloc _, Nat.le_refl _, marked_vals w _ _⟩

/-- Server Error -/
abbrev s500 : ByteArray := { data := #[83, 101, 114, 118, 101, 114, 32, 69, 114, 114, 111, 114] }
set_option maxRecDepth 100000 in
set_option maxHeartbeats 800000 in
theorem has_500 : HasReason 500 s500 := by
  refine ⟨⟨by decide, by decide, by decide, by decide⟩, fun w => ?_, fun w => ?_⟩
  · go_enter Tryd.func6, Tryd.ntmps6
    go_wp2
    go_ret2
    exact ⟨rfl, rfl⟩
  · have kc := fun (w : World) (C : Array Value) (n c : Nat) => Lib.run_convert_bytes_const (P := Tryd.prog) w 22 5 C n c Tryd.underlying22 Tryd.underlying5
    go_enter Tryd.func28, Tryd.ntmps28
    go_wp2
    go_ret
    exact ⟨w.heap.size, _, rfl, (Step.refl _ _).alloc _, Nat.le_refl _, marked_vals w _ _⟩

/-- Insufficient Capacity -/
abbrev s508 : ByteArray := { data := #[73, 110, 115, 117, 102, 102, 105, 99, 105, 101, 110, 116, 32, 67, 97, 112, 97, 99, 105, 116, 121] }
set_option maxRecDepth 100000 in
set_option maxHeartbeats 800000 in
theorem has_508 : HasReason 508 s508 := by
  refine ⟨⟨by decide, by decide, by decide, by decide⟩, fun w => ?_, fun w => ?_⟩
  · go_enter Tryd.func6, Tryd.ntmps6
    go_wp2
    go_ret2
    exact ⟨rfl, rfl⟩
  · have kc := fun (w : World) (C : Array Value) (n c : Nat) => Lib.run_convert_bytes_const (P := Tryd.prog) w 22 5 C n c Tryd.underlying22 Tryd.underlying5
    go_enter Tryd.func28, Tryd.ntmps28
    go_wp2
    go_ret
    exact ⟨w.heap.size, _, rfl, (Step.refl _ _).alloc _, Nat.le_refl _, marked_vals w _ _⟩

set_option maxRecDepth 100000 in
set_option maxHeartbeats 1600000 in
theorem no_reason (n : Int) (w : World) (h300 : (n == 300) = false) (h400 : (n == 400) = false) (h401 : (n == 401) = false) (h403 : (n == 403) = false) (h420 : (n == 420) = false) (h437 : (n == 437) = false) (h438 : (n == 438) = false) (h441 : (n == 441) = false) (h442 : (n == 442) = false) (h486 : (n == 486) = false) (h487 : (n == 487) = false) (h500 : (n == 500) = false) (h508 : (n == 508) = false) : Calls Tryd.prog 6 #[.int .i64 n] w fun e w' => e = .returned (.tuple #[.string { data := #[] }, .bool false]) ∧ w = w' := by
  go_enter Tryd.func6, Tryd.ntmps6
  go_wp2
  go_ret2
  exact ⟨rfl, rfl⟩

/-- A number has a reason, or spec.Reason tells none. -/
theorem reason_or (n : Int) : (∃ s, HasReason n s) ∨ ∀ w, Calls Tryd.prog 6 #[.int .i64 n] w fun e w' => e = .returned (.tuple #[.string { data := #[] }, .bool false]) ∧ w = w' := by
  by_cases h300 : n = 300
  · subst h300; exact Or.inl ⟨_, has_300⟩
  by_cases h400 : n = 400
  · subst h400; exact Or.inl ⟨_, has_400⟩
  by_cases h401 : n = 401
  · subst h401; exact Or.inl ⟨_, has_401⟩
  by_cases h403 : n = 403
  · subst h403; exact Or.inl ⟨_, has_403⟩
  by_cases h420 : n = 420
  · subst h420; exact Or.inl ⟨_, has_420⟩
  by_cases h437 : n = 437
  · subst h437; exact Or.inl ⟨_, has_437⟩
  by_cases h438 : n = 438
  · subst h438; exact Or.inl ⟨_, has_438⟩
  by_cases h441 : n = 441
  · subst h441; exact Or.inl ⟨_, has_441⟩
  by_cases h442 : n = 442
  · subst h442; exact Or.inl ⟨_, has_442⟩
  by_cases h486 : n = 486
  · subst h486; exact Or.inl ⟨_, has_486⟩
  by_cases h487 : n = 487
  · subst h487; exact Or.inl ⟨_, has_487⟩
  by_cases h500 : n = 500
  · subst h500; exact Or.inl ⟨_, has_500⟩
  by_cases h508 : n = 508
  · subst h508; exact Or.inl ⟨_, has_508⟩
  exact Or.inr fun w => no_reason n w (by simpa using h300) (by simpa using h400) (by simpa using h401) (by simpa using h403) (by simpa using h420) (by simpa using h437) (by simpa using h438) (by simpa using h441) (by simpa using h442) (by simpa using h486) (by simpa using h487) (by simpa using h500) (by simpa using h508)
end Go.Proofs.YtnpakacfdffbpaaDoor
