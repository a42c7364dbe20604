/-
  The walk of FnTextLong: it answers true for every kind and every text, and leaves all that was there. Condition: the sentinels are different errors.
-/
import Derived.Test.YtnpakacfdffbpaaDoorText
namespace Go.Proofs.YtnpakacfdffbpaaDoor
open Go.RowKit

def Yes (w : World) (e : Ending) (w' : World) : Prop := e = .returned (.bool true) ∧ Step [] w w'

/-- The one letter that is a short text. -/
abbrev strA : ByteArray := { data := #[97] }

theorem long_big (kind : Int) (s : ByteArray) (w : World) (h : 2147483647 < (s.size : Int)) : Calls Tryd.prog 3 #[.int .i64 kind, .string s] w (Yes w) := by
  go_enter Tryd.func3, Tryd.ntmps3
  go_wp2
  go_ret
  exact ⟨rfl, Step.refl _ _⟩

theorem long_neg (kind : Int) (s : ByteArray) (w : World) (h0 : (s.size : Int) ≤ 2147483647) (h : kind < 0) : Calls Tryd.prog 3 #[.int .i64 kind, .string s] w (Yes w) := by
  go_enter Tryd.func3, Tryd.ntmps3
  go_wp2
  go_ret
  exact ⟨rfl, Step.refl _ _⟩

theorem long_high (kind : Int) (s : ByteArray) (w : World) (h0 : (s.size : Int) ≤ 2147483647) (h1 : 0 ≤ kind) (h : 3 < kind) : Calls Tryd.prog 3 #[.int .i64 kind, .string s] w (Yes w) := by
  go_enter Tryd.func3, Tryd.ntmps3
  go_wp2
  go_ret
  exact ⟨rfl, Step.refl _ _⟩

theorem long_most (kind : Int) (s : ByteArray) (w : World) (h0 : (s.size : Int) ≤ 2147483647) (h1 : 0 ≤ kind) (h2 : kind ≤ 3) (h : 4096 < (s.size : Int)) : Calls Tryd.prog 3 #[.int .i64 kind, .string s] w (Yes w) := by
  go_enter Tryd.func3, Tryd.ntmps3
  go_wp2
  go_ret
  exact ⟨rfl, Step.refl _ _⟩

set_option maxRecDepth 100000 in
set_option maxHeartbeats 800000 in
theorem long_less (kind : Int) (s : ByteArray) (w : World) (h0 : (s.size : Int) ≤ 4096) (h1 : 0 ≤ kind) (h2 : kind ≤ 3) (h3 : (s.size : Int) < 764) (h : (kind != 0) = true) : Calls Tryd.prog 3 #[.int .i64 kind, .string s] w (Yes w) := by
  go_enter Tryd.func3, Tryd.ntmps3
  go_wp2
  go_ret
  exact ⟨rfl, Step.refl _ _⟩

set_option maxRecDepth 100000 in
set_option maxHeartbeats 800000 in
theorem long_user (s : ByteArray) (w : World) (h0 : (s.size : Int) ≤ 4096) (h3 : (s.size : Int) < 514) : Calls Tryd.prog 3 #[.int .i64 0, .string s] w (Yes w) := by
  go_enter Tryd.func3, Tryd.ntmps3
  go_wp2
  go_ret
  exact ⟨rfl, Step.refl _ _⟩

set_option maxRecDepth 100000 in
set_option maxHeartbeats 800000 in
theorem long_0 (s : ByteArray) (a : Addr) (w : World) (hs : Sents w a) (h0 : (s.size : Int) ≤ 4096) (h : (513 : Int) < (s.size : Int)) : Calls Tryd.prog 3 #[.int .i64 0, .string s] w (Yes w) := by
  go_enter Tryd.func3, Tryd.ntmps3
  by_cases h7 : (s.size : Int) < 764
  all_goals
    go_wp2_with fail
    refine (user_long s a _ hs (by omega)).mono ?_
    rintro e w1 ⟨rfl, hs1⟩
    go_wp2_with fail
    refine (user_short strA _ (by decide) (by decide)).mono ?_
    rintro e w2 ⟨v, rfl, hs2⟩
    go_wp2
    go_ret
    exact ⟨rfl, hs1.trans hs2⟩

set_option maxRecDepth 100000 in
set_option maxHeartbeats 800000 in
theorem long_1 (s : ByteArray) (a : Addr) (w : World) (hs : Sents w a) (h0 : (s.size : Int) ≤ 4096) (h : (763 : Int) < (s.size : Int)) : Calls Tryd.prog 3 #[.int .i64 1, .string s] w (Yes w) := by
  go_enter Tryd.func3, Tryd.ntmps3
  skip
  all_goals
    go_wp2_with fail
    refine (realm_long s a _ hs (by omega)).mono ?_
    rintro e w1 ⟨rfl, hs1⟩
    go_wp2_with fail
    refine (realm_short strA _ (by decide) (by decide)).mono ?_
    rintro e w2 ⟨v, rfl, hs2⟩
    go_wp2
    go_ret
    exact ⟨rfl, hs1.trans hs2⟩

set_option maxRecDepth 100000 in
set_option maxHeartbeats 800000 in
theorem long_2 (s : ByteArray) (a : Addr) (w : World) (hs : Sents w a) (h0 : (s.size : Int) ≤ 4096) (h : (763 : Int) < (s.size : Int)) : Calls Tryd.prog 3 #[.int .i64 2, .string s] w (Yes w) := by
  go_enter Tryd.func3, Tryd.ntmps3
  skip
  all_goals
    go_wp2_with fail
    refine (nonce_long s a _ hs (by omega)).mono ?_
    rintro e w1 ⟨rfl, hs1⟩
    go_wp2_with fail
    refine (nonce_short strA _ (by decide) (by decide)).mono ?_
    rintro e w2 ⟨v, rfl, hs2⟩
    go_wp2
    go_ret
    exact ⟨rfl, hs1.trans hs2⟩

set_option maxRecDepth 100000 in
set_option maxHeartbeats 800000 in
theorem long_3 (s : ByteArray) (a : Addr) (w : World) (hs : Sents w a) (h0 : (s.size : Int) ≤ 4096) (h : (763 : Int) < (s.size : Int)) : Calls Tryd.prog 3 #[.int .i64 3, .string s] w (Yes w) := by
  go_enter Tryd.func3, Tryd.ntmps3
  skip
  all_goals
    go_wp2_with fail
    refine (soft_long s a _ hs (by omega)).mono ?_
    rintro e w1 ⟨rfl, hs1⟩
    go_wp2_with fail
    refine (soft_short strA _ (by decide) (by decide)).mono ?_
    rintro e w2 ⟨v, rfl, hs2⟩
    go_wp2
    go_ret
    exact ⟨rfl, hs1.trans hs2⟩

/-- FnTextLong at every kind and every text. -/
theorem long_any (kind : Int) (s : ByteArray) (a : Addr) (w : World) (hs : Sents w a) : Calls Tryd.prog 3 #[.int .i64 kind, .string s] w (Yes w) := by
  by_cases c1 : 2147483647 < (s.size : Int)
  · exact long_big kind s w c1
  by_cases c2 : kind < 0
  · exact long_neg kind s w (by omega) c2
  by_cases c3 : 3 < kind
  · exact long_high kind s w (by omega) (by omega) c3
  by_cases c4 : 4096 < (s.size : Int)
  · exact long_most kind s w (by omega) (by omega) (by omega) c4
  by_cases c5 : kind = 0
  · subst c5
    by_cases c6 : (s.size : Int) < 514
    · exact long_user s w (by omega) c6
    · exact long_0 s a w hs (by omega) (by omega)
  by_cases c6 : (s.size : Int) < 764
  · exact long_less kind s w (by omega) (by omega) (by omega) c6 (by simpa using c5)
  obtain rfl | rfl | rfl : kind = 1 ∨ kind = 2 ∨ kind = 3 := by omega
  · exact long_1 s a w hs (by omega) (by omega)
  · exact long_2 s a w hs (by omega) (by omega)
  · exact long_3 s a w hs (by omega) (by omega)
end Go.Proofs.YtnpakacfdffbpaaDoor
