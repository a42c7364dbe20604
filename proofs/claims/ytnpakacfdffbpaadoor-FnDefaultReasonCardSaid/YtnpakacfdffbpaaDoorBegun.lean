/-
  The contracts of stun.New and impl.begun (at the number of zeros): a new message of the type 1 without attributes. No condition.
-/
import Derived.Test.YtnpakacfdffbpaaDoorHead
namespace Go.Proofs.YtnpakacfdffbpaaDoor
open Go.RowKit

/-- A new message: its block M, its bytes' block R, both new. -/
def Made (mt : Int) (w : World) (e : Ending) (w' : World) : Prop :=
  ∃ (M R : Nat) (cur : Array Value), e = .returned (.pointer (some ⟨M, 0, none⟩)) ∧ Step [] w w' ∧ w.heap.size ≤ M ∧ w.heap.size ≤ R ∧ M ≠ R ∧ cur.size = 120 ∧
    Blk w' M (msgC mt 0 (.slice none 0 0) (.slice (some ⟨R, 0, none⟩) 20 120)) 60 ∧ Blk w' R cur 5

/-- The bytes' block of a new message. -/
def raw0 : Array Value := Array.replicate 120 (.int .u8 0)
theorem raw0_size : raw0.size = 120 := by simp [raw0]
theorem make120 (w : World) : (Instr.makeSlice 22 (.int .i64 20) (.int .i64 120)).run Tryd.prog w = .ok (.slice (some ⟨w.heap.size, 0, none⟩) 20 120) (w.alloc (.cells raw0 5)) := by kernel_rfl

set_option maxRecDepth 100000 in
set_option maxHeartbeats 800000 in
theorem new_any (w : World) : Calls Tryd.prog 21 #[] w (Made 0 w) := by
  have hmk := make120
  go_enter Tryd.func21, Tryd.ntmps21
  go_wp2
  go_ret
  refine ⟨w.heap.size + 1, w.heap.size, raw0, rfl, ((Step.refl _ _).alloc _).alloc _, by omega, by omega, by omega, raw0_size, ?_, ?_⟩
  · have h := Blk.new (w.alloc (.cells raw0 5)) (msgC 0 0 (.slice none 0 0) (.slice (some ⟨w.heap.size, 0, none⟩) 20 120)) 60
    simpa [msgC] using h
  · exact (Blk.new w raw0 5).alloc _

theorem zeros_msgC (mt len : Int) (a r : Value) (k : Nat) (hk : 3 ≤ k) (hk2 : k < 15) : (msgC mt len a r).setIfInBounds k (.int .u8 0) = msgC mt len a r := by
  obtain rfl | rfl | rfl | rfl | rfl | rfl | rfl | rfl | rfl | rfl | rfl | rfl : k = 3 ∨ k = 4 ∨ k = 5 ∨ k = 6 ∨ k = 7 ∨ k = 8 ∨ k = 9 ∨ k = 10 ∨ k = 11 ∨ k = 12 ∨ k = 13 ∨ k = 14 := by omega
  all_goals simp [msgC]

theorem Blk.setz {w : World} {M : Nat} {mt len : Int} {a r : Value} (h : Blk w M (msgC mt len a r) 60) (k : Nat) (hk : 3 ≤ k) (hk2 : k < 15) : Blk (w.setCell ⟨M, k, none⟩ (.int .u8 0)) M (msgC mt len a r) 60 := by
  have := h.set k (.int .u8 0)
  rw [zeros_msgC _ _ _ _ k hk hk2] at this
  exact this

abbrev zeros12 : Array Value := #[.int .u8 0, .int .u8 0, .int .u8 0, .int .u8 0, .int .u8 0, .int .u8 0, .int .u8 0, .int .u8 0, .int .u8 0, .int .u8 0, .int .u8 0, .int .u8 0]

set_option maxRecDepth 100000 in
set_option maxHeartbeats 800000 in
theorem begun_any (w : World) : Calls Tryd.prog 10 #[.agg zeros12] w (Made 1 w) := by
  go_enter Tryd.func10, Tryd.ntmps10
  go_wp2_with fail
  refine (new_any _).mono ?_
  rintro e w1 ⟨M, R, cur, rfl, hs1, hbM, hbR, hne, hsz, hM1, hR1⟩
  have hB0 := Blk.new w zeros12 34
  have hB1 : Blk w1 w.heap.size zeros12 34 := hs1.blk hB0 (by simp)
  simp only [World.size_alloc] at hbM hbR
  have hs1' : Step [] w w1 := ((Step.refl _ _).alloc _).trans hs1
  clear hs1 hB0
  go_wp2_with fail
  refine (newType _).mono ?_
  rintro e w2 ⟨rfl, hs2⟩
  have hM2 := hs2.blk hM1 (by simp)
  have hR2 := hs2.blk hR1 (by simp)
  have hB2 := hs2.blk hB1 (by simp)
  have hs2' := hs1'.trans hs2
  clear hs2 hM1 hR1 hB1 hs1'
  go_wp2_with fail
  refine (setType M R 0 _ 20 cur _ hM2 hR2 hne hsz (by omega) (by omega)).mono ?_
  rintro e w3 ⟨rfl, hs3, hM3, x, y, hR3⟩
  have hB3 := hs3.blk hB2 (by simp; omega)
  have hs3' : Step [] w w3 := hs2'.trans' hs3 (by simp; omega)
  generalize hc3 : (cur.setIfInBounds 0 x).setIfInBounds 1 y = cur3 at hR3
  have hz3 : cur3.size = 120 := by rw [← hc3]; simp [hsz]
  clear hc3 hs2' hs3 hM2 hR2 hB2
  have hMw : w.heap.size ≤ M := by omega
  have hM4 := ((((((((((((hM3.setz 3 (by omega) (by omega)).setz 4 (by omega) (by omega)).setz 5 (by omega) (by omega)).setz 6 (by omega) (by omega)).setz 7 (by omega) (by omega)).setz 8 (by omega) (by omega)).setz 9 (by omega) (by omega)).setz 10 (by omega) (by omega)).setz 11 (by omega) (by omega)).setz 12 (by omega) (by omega)).setz 13 (by omega) (by omega)).setz 14 (by omega) (by omega))
  have hR4 := ((((((((((((hR3.set_other ⟨M, 3, none⟩ (.int .u8 0) (Ne.symm hne)).set_other ⟨M, 4, none⟩ (.int .u8 0) (Ne.symm hne)).set_other ⟨M, 5, none⟩ (.int .u8 0) (Ne.symm hne)).set_other ⟨M, 6, none⟩ (.int .u8 0) (Ne.symm hne)).set_other ⟨M, 7, none⟩ (.int .u8 0) (Ne.symm hne)).set_other ⟨M, 8, none⟩ (.int .u8 0) (Ne.symm hne)).set_other ⟨M, 9, none⟩ (.int .u8 0) (Ne.symm hne)).set_other ⟨M, 10, none⟩ (.int .u8 0) (Ne.symm hne)).set_other ⟨M, 11, none⟩ (.int .u8 0) (Ne.symm hne)).set_other ⟨M, 12, none⟩ (.int .u8 0) (Ne.symm hne)).set_other ⟨M, 13, none⟩ (.int .u8 0) (Ne.symm hne)).set_other ⟨M, 14, none⟩ (.int .u8 0) (Ne.symm hne))
  have hs4 := ((((((((((((hs3'.set ⟨M, 3, none⟩ (.int .u8 0) (Or.inr hMw)).set ⟨M, 4, none⟩ (.int .u8 0) (Or.inr hMw)).set ⟨M, 5, none⟩ (.int .u8 0) (Or.inr hMw)).set ⟨M, 6, none⟩ (.int .u8 0) (Or.inr hMw)).set ⟨M, 7, none⟩ (.int .u8 0) (Or.inr hMw)).set ⟨M, 8, none⟩ (.int .u8 0) (Or.inr hMw)).set ⟨M, 9, none⟩ (.int .u8 0) (Or.inr hMw)).set ⟨M, 10, none⟩ (.int .u8 0) (Or.inr hMw)).set ⟨M, 11, none⟩ (.int .u8 0) (Or.inr hMw)).set ⟨M, 12, none⟩ (.int .u8 0) (Or.inr hMw)).set ⟨M, 13, none⟩ (.int .u8 0) (Or.inr hMw)).set ⟨M, 14, none⟩ (.int .u8 0) (Or.inr hMw))
  have b0 : w3.cell? ⟨w.heap.size, 0, none⟩ = some (.int .u8 0) := hB3.cell 0
  have b1 : w3.cell? ⟨w.heap.size, 1, none⟩ = some (.int .u8 0) := hB3.cell 1
  have b2 : w3.cell? ⟨w.heap.size, 2, none⟩ = some (.int .u8 0) := hB3.cell 2
  have b3 : w3.cell? ⟨w.heap.size, 3, none⟩ = some (.int .u8 0) := hB3.cell 3
  have b4 : w3.cell? ⟨w.heap.size, 4, none⟩ = some (.int .u8 0) := hB3.cell 4
  have b5 : w3.cell? ⟨w.heap.size, 5, none⟩ = some (.int .u8 0) := hB3.cell 5
  have b6 : w3.cell? ⟨w.heap.size, 6, none⟩ = some (.int .u8 0) := hB3.cell 6
  have b7 : w3.cell? ⟨w.heap.size, 7, none⟩ = some (.int .u8 0) := hB3.cell 7
  have b8 : w3.cell? ⟨w.heap.size, 8, none⟩ = some (.int .u8 0) := hB3.cell 8
  have b9 : w3.cell? ⟨w.heap.size, 9, none⟩ = some (.int .u8 0) := hB3.cell 9
  have b10 : w3.cell? ⟨w.heap.size, 10, none⟩ = some (.int .u8 0) := hB3.cell 10
  have b11 : w3.cell? ⟨w.heap.size, 11, none⟩ = some (.int .u8 0) := hB3.cell 11
  have k3 : w3.cell? ⟨M, 3, none⟩ = some (.int .u8 0) := hM3.cell 3
  have f3 := hM3.frozen 3
  have k4 : w3.cell? ⟨M, 4, none⟩ = some (.int .u8 0) := hM3.cell 4
  have f4 := hM3.frozen 4
  have k5 : w3.cell? ⟨M, 5, none⟩ = some (.int .u8 0) := hM3.cell 5
  have f5 := hM3.frozen 5
  have k6 : w3.cell? ⟨M, 6, none⟩ = some (.int .u8 0) := hM3.cell 6
  have f6 := hM3.frozen 6
  have k7 : w3.cell? ⟨M, 7, none⟩ = some (.int .u8 0) := hM3.cell 7
  have f7 := hM3.frozen 7
  have k8 : w3.cell? ⟨M, 8, none⟩ = some (.int .u8 0) := hM3.cell 8
  have f8 := hM3.frozen 8
  have k9 : w3.cell? ⟨M, 9, none⟩ = some (.int .u8 0) := hM3.cell 9
  have f9 := hM3.frozen 9
  have k10 : w3.cell? ⟨M, 10, none⟩ = some (.int .u8 0) := hM3.cell 10
  have f10 := hM3.frozen 10
  have k11 : w3.cell? ⟨M, 11, none⟩ = some (.int .u8 0) := hM3.cell 11
  have f11 := hM3.frozen 11
  have k12 : w3.cell? ⟨M, 12, none⟩ = some (.int .u8 0) := hM3.cell 12
  have f12 := hM3.frozen 12
  have k13 : w3.cell? ⟨M, 13, none⟩ = some (.int .u8 0) := hM3.cell 13
  have f13 := hM3.frozen 13
  have k14 : w3.cell? ⟨M, 14, none⟩ = some (.int .u8 0) := hM3.cell 14
  have f14 := hM3.frozen 14
  have hltM := hM3.lt
  have hltB := hB3.lt
  go_wp2_with fail
  refine (writeHeader M R 20 cur3 _ hM4 hR4 hne hz3 (by omega) (by omega)).mono ?_
  rintro e w5 ⟨rfl, hs5, hM5, cur5, hz5, hR5⟩
  go_wp2
  go_ret
  exact ⟨M, R, cur5, rfl, hs4.trans' hs5 (by simp; omega), by omega, by omega, hne, hz5, hM5, hR5⟩
end Go.Proofs.YtnpakacfdffbpaaDoor
