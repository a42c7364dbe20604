/-
  What the listed variables of FnTextLong give its walk: the nine sentinels lie in memory, and the error of too large a size is none of the others. Condition: the row's list is met.
-/
import Derived.Test.YtnpakacfdffbpaaDoorErr
import Derived.ProofKit
import Derived.Stop.LaidTwo
import Derived.LaidMore
namespace Go.Proofs.YtnpakacfdffbpaaDoor
open Go.ChangeShapes Go.WideShapes Go.ChangeAt Go.RowKit

theorem Tryd.cells127 : Tryd.prog.cellsOf 127 = 1 := by kernel_rfl
theorem Tryd.cells9 : Tryd.prog.cellsOf 9 = 1 := by kernel_rfl
theorem Tryd.star : "*" ++ "errors.errorString" = "*errors.errorString" := by decide
theorem Tryd.row99 (u : TypeId) (h : Tryd.prog.typeName? 3 u = some "*errors.errorString") : u = 99 :=
  typeName_ptr_named (nm := "errors.errorString") (by rw [Tryd.star]; kernel_rfl) (by kernel_rfl) (by decide) u (by rw [Tryd.star]; exact h)

/-- The datum of a sentinel of this text. -/
def sd (text : List UInt8) : DataW Unit := .iface "*errors.errorString" (.ptr (.agg [.lit (.string text)]))

theorem laid_drop2 {P : Program} {x y : String × DataW Unit} {r : List (String × DataW Unit)} {w : World} (h : laidMet P (x :: y :: r) w) : laidMet P (x :: r) w := by
  obtain ⟨ps, hv, hnd, hrows⟩ := h
  obtain ⟨n, d⟩ := x
  obtain ⟨m, d'⟩ := y
  obtain ⟨g, t, cs, fuel, p, q, h1, h2, h3, h4, ⟨g', t', cs', fuel', p', q', _, _, _, _, hq, rfl⟩, rfl⟩ := hv
  refine ⟨_, ⟨g, t, cs, fuel, p, q', h1, h2, h3, h4, hq, rfl⟩, ?_, fun b off hm => hrows b off ?_⟩
  · exact List.Nodup.sublist (List.Sublist.append_left (List.sublist_append_right _ _) _) hnd
  · rcases List.mem_append.1 hm with hm | hm
    · exact List.mem_append_left _ hm
    · exact List.mem_append_right _ (List.mem_append_right _ hm)

theorem pair_sent {n0 n1 : String} {x0 x1 : List UInt8} {r : List (String × DataW Unit)} {W : World} {g0 g1 : Nat} (h : laidMet Tryd.prog ((n0, sd x0) :: (n1, sd x1) :: r) W)
    (hg0 : Tryd.prog.globalNamed n0 = some g0) (ht0 : (Tryd.prog.globals[g0]?).map (·.type) = some 37) (hg1 : Tryd.prog.globalNamed n1 = some g1) (ht1 : (Tryd.prog.globals[g1]?).map (·.type) = some 37) :
    ∃ a0 a1, a0 ≠ a1 ∧ Sent W g0 a0 ∧ Sent W g1 a1 := by
  obtain ⟨a0, a1, s0, s1, c0, c1, t0, t1, hv0, hv1, _, _, _, _, _, _, hne, hb0, hb1⟩ := laid_sentinels2 h hg0 ht0 hg1 ht1 Tryd.underlying37 Tryd.row99 Tryd.underlying99 Tryd.underlying127 rfl rfl Tryd.underlying9 Tryd.cells127 Tryd.cells9
  exact ⟨a0, a1, hne, ⟨by simpa using World.var?_cell hg0 hv0 0, c0, t0, hb0⟩, by simpa using World.var?_cell hg1 hv1 0, c1, t1, hb1⟩

theorem Sent.inj {W : World} {i : Nat} {a b : Addr} (h : Sent W i a) (k : Sent W i b) : a = b := by
  have e := Option.some.inj (h.1.symm.trans k.1)
  injection e with _ e
  injection e with e
  exact Option.some.inj e

theorem Tryd.g0 : Tryd.prog.globalNamed "loop.example/pub-g03052/pub/stun.ErrNoDefaultReason" = some 0 := by kernel_rfl
theorem Tryd.g2 : Tryd.prog.globalNamed "loop.example/pub-g03052/pub/stun.ErrAttributeNotFound" = some 2 := by kernel_rfl
theorem Tryd.g3 : Tryd.prog.globalNamed "loop.example/pub-g03052/pub/stun.ErrBadUnknownAttrsSize" = some 3 := by kernel_rfl
theorem Tryd.g4 : Tryd.prog.globalNamed "loop.example/pub-g03052/pub/stun.ErrBadIPLength" = some 4 := by kernel_rfl
theorem Tryd.g5 : Tryd.prog.globalNamed "loop.example/pub-g03052/pub/stun.ErrFingerprintBeforeIntegrity" = some 5 := by kernel_rfl
theorem Tryd.g6 : Tryd.prog.globalNamed "loop.example/pub-g03052/pub/stun.ErrIntegrityMismatch" = some 6 := by kernel_rfl
theorem Tryd.g7 : Tryd.prog.globalNamed "loop.example/pub-g03052/pub/stun.ErrFingerprintMismatch" = some 7 := by kernel_rfl
theorem Tryd.g9 : Tryd.prog.globalNamed "loop.example/pub-g03052/pub/stun.ErrAttributeSizeInvalid" = some 9 := by kernel_rfl
theorem Tryd.g10 : Tryd.prog.globalNamed "loop.example/pub-g03052/pub/stun.ErrAttributeSizeOverflow" = some 10 := by kernel_rfl
theorem Tryd.gt (i : Nat) (hi : i = 0 ∨ (2 ≤ i ∧ i ≤ 10)) : (Tryd.prog.globals[i]?).map (·.type) = some 37 := by
  obtain rfl | rfl | rfl | rfl | rfl | rfl | rfl | rfl | rfl | rfl : i = 0 ∨ i = 2 ∨ i = 3 ∨ i = 4 ∨ i = 5 ∨ i = 6 ∨ i = 7 ∨ i = 8 ∨ i = 9 ∨ i = 10 := by omega
  all_goals kernel_rfl

theorem sents_of_laid {W : World} (h : laidMetH Tryd.prog Rows.fnTextLongRow.laid W) : ∃ a, Sents W a := by
  rw [MakeChecks.laidMetH_plain _ _ _ (by kernel_rfl)] at h
  have h3 := h.tail.tail.tail
  obtain ⟨a, b4, n4, sa, s4⟩ := pair_sent (laid_drop2 (laid_drop2 (laid_drop2 (laid_drop2 h3)))) Tryd.g10 (Tryd.gt 10 (by omega)) Tryd.g4 (Tryd.gt 4 (by omega))
  obtain ⟨a', b3, n3, sa', s3⟩ := pair_sent (laid_drop2 (laid_drop2 (laid_drop2 h3))) Tryd.g10 (Tryd.gt 10 (by omega)) Tryd.g3 (Tryd.gt 3 (by omega))
  obtain rfl := sa'.inj sa
  obtain ⟨a', b6, n6, sa', s6⟩ := pair_sent (laid_drop2 (laid_drop2 h3)) Tryd.g10 (Tryd.gt 10 (by omega)) Tryd.g6 (Tryd.gt 6 (by omega))
  obtain rfl := sa'.inj sa
  obtain ⟨a', b5, n5, sa', s5⟩ := pair_sent (laid_drop2 h3) Tryd.g10 (Tryd.gt 10 (by omega)) Tryd.g5 (Tryd.gt 5 (by omega))
  obtain rfl := sa'.inj sa
  obtain ⟨a', b7, n7, sa', s7⟩ := pair_sent h3 Tryd.g10 (Tryd.gt 10 (by omega)) Tryd.g7 (Tryd.gt 7 (by omega))
  obtain rfl := sa'.inj sa
  obtain ⟨b9, a', n9, s9, sa'⟩ := pair_sent h.tail.tail Tryd.g9 (Tryd.gt 9 (by omega)) Tryd.g10 (Tryd.gt 10 (by omega))
  obtain rfl := sa'.inj sa
  obtain ⟨b0, a', n0, s0, sa'⟩ := pair_sent (laid_drop2 h.tail) Tryd.g0 (Tryd.gt 0 (by omega)) Tryd.g10 (Tryd.gt 10 (by omega))
  obtain rfl := sa'.inj sa
  obtain ⟨b2, a', n2, s2, sa'⟩ := pair_sent (laid_drop2 (laid_drop2 h)) Tryd.g2 (Tryd.gt 2 (by omega)) Tryd.g10 (Tryd.gt 10 (by omega))
  obtain rfl := sa'.inj sa
  exact ⟨a', sa, ⟨b0, n0, s0⟩, ⟨b2, n2, s2⟩, ⟨b3, Ne.symm n3, s3⟩, ⟨b4, Ne.symm n4, s4⟩, ⟨b5, Ne.symm n5, s5⟩, ⟨b6, Ne.symm n6, s6⟩, ⟨b7, Ne.symm n7, s7⟩, b9, n9, s9⟩
end Go.Proofs.YtnpakacfdffbpaaDoor
