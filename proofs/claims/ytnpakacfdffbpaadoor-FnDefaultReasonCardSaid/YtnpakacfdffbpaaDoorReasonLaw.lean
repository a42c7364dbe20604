/-
  The walk of FnDefaultReason: it answers true for every number, and leaves all that was there. No condition.
-/
import Derived.Test.YtnpakacfdffbpaaDoorDeflt
namespace Go.Proofs.YtnpakacfdffbpaaDoor
open Go.RowKit

/-- True, and all that was there as it was. -/
def Holds (w : World) (e : Ending) (w' : World) : Prop := e = .returned (.bool true) ∧ Step [] w w'

set_option maxRecDepth 100000 in
set_option maxHeartbeats 800000 in
theorem default_yes (n : Int) (s : ByteArray) (w : World) (h : HasReason n s) : Calls Tryd.prog 4 #[.int .i64 n] w (Holds w) := by
  have Hh := Lib.hid h
  obtain ⟨⟨hn, hn2, h1, h2⟩, h6, h28⟩ := h
  have H6 := Lib.hid h6
  clear h6 h28
  have hc := fun w => Lib.run_convert_string_bytes (P := Tryd.prog) w 9 22 5 s Tryd.underlying9 Tryd.underlying22 Tryd.underlying5
  go_enter Tryd.func4, Tryd.ntmps4
  go_wp2_with fail
  refine (H6.out _).mono ?_
  rintro e w1 ⟨rfl, rfl⟩
  go_wp2_with fail
  refine (default_any n s _ Hh.out).mono ?_
  rintro e w2 ⟨V, cap, rfl, hs2, hV, hv⟩
  have Hv := Lib.hid hv
  clear hv
  go_wp2_with fail
  have hsb := bytesWorld_step w2 5 s
  have hvb := bytesWorld_vals w2 s
  refine (specCode_any n s w2.heap.size _ _ hn hn2 h1 h2 hvb).mono ?_
  rintro e w3 ⟨V3, cap3, rfl, hs3, hV3, hv3⟩
  have hs23 := hsb.trans hs3
  have hv2 := Hv.out.step hs23 (by simp)
  have Hv2 := Lib.hid hv2
  have Hv3 := Lib.hid hv3
  clear hv2 hv3 hsb hvb Hv
  go_wp2_with fail
  refine (same_any (codeInts n s) V V3 cap cap3 (4 + s.size) _ (by have := codeVals_length n s; simpa [codeVals] using this) Hv2.out Hv3.out).mono ?_
  rintro e w4 ⟨rfl, rfl⟩
  go_wp2
  go_ret
  exact ⟨rfl, hs2.trans hs23⟩

/-- FnDefaultReason at every number. -/
theorem default_law (n : Int) (w : World) : Calls Tryd.prog 4 #[.int .i64 n] w (Holds w) := by
  rcases reason_or n with ⟨s, h⟩ | h
  · exact default_yes n s w h
  · have H := Lib.hid h
    clear h
    go_enter Tryd.func4, Tryd.ntmps4
    go_wp2_with fail
    refine (H.out _).mono ?_
    rintro e w1 ⟨rfl, rfl⟩
    go_wp2
    go_ret
    exact ⟨rfl, Step.refl _ _⟩
end Go.Proofs.YtnpakacfdffbpaaDoor
