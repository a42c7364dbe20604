/-
  The contracts of the small functions that write a message's header: PutUint16, PutUint32, the value of a message's type, grow. Conditions: the slices are long enough.
-/
import Derived.Test.YtnpakacfdffbpaaDoorMem
namespace Go.Proofs.YtnpakacfdffbpaaDoor
open Go.RowKit

def Put2 (R o : Nat) (cur : Array Value) (w : World) (e : Ending) (w' : World) : Prop :=
  e = .returned (.tuple #[]) ∧ Step [R] w w' ∧ ∃ x y, Blk w' R ((cur.setIfInBounds o x).setIfInBounds (o + 1) y) 5

set_option maxHeartbeats 400000 in
theorem put16 (R o n c : Nat) (v : Int) (cur : Array Value) (w : World) (hR : Blk w R cur 5) (hn : 2 ≤ n) (ho : o + 2 ≤ cur.size) (hv : 0 ≤ v) (hv2 : v < 65536) :
    Calls Tryd.prog 38 #[.agg #[], .slice (some ⟨R, o, none⟩) n c, .int .u16 v] w (Put2 R o cur w) := by
  have hlt := hR.lt
  have c0 := hR.at (i := o) (by omega)
  have c1 := hR.at (i := o + 1) (by omega)
  have f0 := hR.frozen o
  have f1 := hR.frozen (o + 1)
  go_enter Tryd.func38, Tryd.ntmps38
  go_wp2
  go_end0
  exact ⟨rfl, (((Step.refl _ _).set _ _ (Or.inl (by simp))).set _ _ (Or.inl (by simp))).alloc _, _, _, ((hR.set _ _).set _ _).alloc _⟩

def Put4 (R o : Nat) (cur : Array Value) (w : World) (e : Ending) (w' : World) : Prop :=
  e = .returned (.tuple #[]) ∧ Step [R] w w' ∧ ∃ x y z u, Blk w' R ((((cur.setIfInBounds o x).setIfInBounds (o + 1) y).setIfInBounds (o + 2) z).setIfInBounds (o + 3) u) 5

set_option maxHeartbeats 400000 in
theorem put32 (R o n c : Nat) (v : Int) (cur : Array Value) (w : World) (hR : Blk w R cur 5) (hn : 4 ≤ n) (ho : o + 4 ≤ cur.size) (hv : 0 ≤ v) (hv2 : v < 4294967296) :
    Calls Tryd.prog 33 #[.agg #[], .slice (some ⟨R, o, none⟩) n c, .int .u32 v] w (Put4 R o cur w) := by
  have hlt := hR.lt
  have c0 := hR.at (i := o) (by omega)
  have c1 := hR.at (i := o + 1) (by omega)
  have c2 := hR.at (i := o + 2) (by omega)
  have c3 := hR.at (i := o + 3) (by omega)
  have f0 := hR.frozen o
  have f1 := hR.frozen (o + 1)
  have f2 := hR.frozen (o + 2)
  have f3 := hR.frozen (o + 3)
  go_enter Tryd.func33, Tryd.ntmps33
  go_wp2
  go_end0
  exact ⟨rfl, (((((Step.refl _ _).set _ _ (Or.inl (by simp))).set _ _ (Or.inl (by simp))).set _ _ (Or.inl (by simp))).set _ _ (Or.inl (by simp))).alloc _, _, _, _, _, ((((hR.set _ _).set _ _).set _ _).set _ _).alloc _⟩

/-- The value of the type of a binding request. -/
theorem value39 (w : World) : Calls Tryd.prog 39 #[.agg #[.int .u16 1, .int .u8 0]] w fun e w' => e = .returned (.int .u16 1) ∧ w' = w.alloc (.cells #[.int .u16 1, .int .u8 0] 54) := by
  go_enter Tryd.func39, Tryd.ntmps39
  go_wp2
  go_ret
  exact ⟨rfl, rfl⟩

theorem value41 (t : Int) (w : World) : Calls Tryd.prog 41 #[.int .u16 t] w fun e w' => e = .returned (.int .u16 t) ∧ w = w' := by
  go_enter Tryd.func41, Tryd.ntmps41
  go_wp2
  go_ret
  exact ⟨rfl, rfl⟩

theorem newType (w : World) : Calls Tryd.prog 23 #[.int .u16 1, .int .u8 0] w fun e w' => e = .returned (.agg #[.int .u16 1, .int .u8 0]) ∧ Step [] w w' := by
  go_enter Tryd.func23, Tryd.ntmps23
  go_wp2
  exact bodyPost_ret (v := .agg #[.int .u16 1, .int .u8 0]) (by simp [results, Tryd.results23, go_sem]) rfl ⟨rfl, (Step.refl _ _).alloc _⟩

/-- grow where there is enough: nothing turns. -/
theorem grow_has (M R : Nat) (mt len : Int) (attrs : Value) (rlen : Nat) (n : Int) (w : World) (hM : Blk w M (msgC mt len attrs (.slice (some ⟨R, 0, none⟩) rlen 120)) 60) (hn : n ≤ rlen) :
    Calls Tryd.prog 31 #[.pointer (some ⟨M, 0, none⟩), .int .i64 n] w fun e w' => e = .returned (.tuple #[]) ∧ w = w' := by
  have c16 : w.cell? ⟨M, 16, none⟩ = some (.slice (some ⟨R, 0, none⟩) rlen 120) := hM.cell 16
  clear hM
  go_enter Tryd.func31, Tryd.ntmps31
  go_wp2
  exact bodyPost_ret (results_none rfl _ _ _) rfl ⟨rfl, rfl⟩

def Grew (M R : Nat) (mt len : Int) (attrs : Value) (n : Nat) (w : World) (e : Ending) (w' : World) : Prop :=
  e = .returned (.tuple #[]) ∧ Step [M] w w' ∧ Blk w' M (msgC mt len attrs (.slice (some ⟨R, 0, none⟩) n 120)) 60

/-- grow where the capacity has room. -/
theorem grow_room (M R : Nat) (mt len : Int) (attrs : Value) (rlen : Nat) (n : Int) (w : World) (hM : Blk w M (msgC mt len attrs (.slice (some ⟨R, 0, none⟩) rlen 120)) 60) (hn : (rlen : Int) < n) (hc : n ≤ 120) :
    Calls Tryd.prog 31 #[.pointer (some ⟨M, 0, none⟩), .int .i64 n] w (Grew M R mt len attrs n.toNat w) := by
  have h0 : 0 ≤ n := by omega
  obtain ⟨n, rfl⟩ := Int.eq_ofNat_of_zero_le h0
  rw [Int.toNat_natCast]
  have c16 : w.cell? ⟨M, 16, none⟩ = some (.slice (some ⟨R, 0, none⟩) rlen 120) := hM.cell 16
  have f16 := hM.frozen 16
  go_enter Tryd.func31, Tryd.ntmps31
  go_wp2
  refine bodyPost_ret (results_none rfl _ _ _) rfl ?_
  exact ⟨rfl, (Step.refl _ _).set _ _ (Or.inl (by simp)), hM.set 16 _⟩

/-- The length with what fills it up to whole words. -/
theorem padded_any (l : Int) (w : World) (h0 : 0 ≤ l) (h1 : l ≤ 1000) (h2 : l % 4 ≠ 0) :
    Calls Tryd.prog 42 #[.int .i64 l] w fun e w' => e = .returned (.int .i64 (4 * (l / 4) + 4)) ∧ w = w' := by
  have h3 : 4 * (l / 4) < l := by omega
  go_enter Tryd.func42, Tryd.ntmps42
  go_wp2
  go_ret
  exact ⟨rfl, rfl⟩
end Go.Proofs.YtnpakacfdffbpaaDoor
