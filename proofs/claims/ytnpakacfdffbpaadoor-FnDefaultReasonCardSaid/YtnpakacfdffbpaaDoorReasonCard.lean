/-
  FnDefaultReason's card: for every number the law answers true and leaves what was there, whatever the open variable stun.bin holds. Conditions: the card's own (the listed sentinels read as the program's text lays them).
-/
import Derived.Test.YtnpakacfdffbpaaDoorCards
import Derived.Test.YtnpakacfdffbpaaDoorTie
import Derived.Test.YtnpakacfdffbpaaDoorReasonLaw
import Derived.ProofKit
import Derived.OpenVars
import Derived.Lay
import Derived.LaidMore
import Derived.SevenTiedAt
namespace Go.Proofs.YtnpakacfdffbpaaDoor
open Go.ChangeShapes Go.WideShapes Go.ChangeAt Go.RowKit

theorem reason_own : ownKnob Tryd.prog.godebug = none := by kernel_rfl
theorem reason_laidOut : laidOutB Tryd.prog = true := by kernel_rfl

theorem reason_vars_length {H : Type} {enc : TypeId × Value → H} {P : Program} {W : World} {sp : Nat → Bool} : ∀ {ns : List String} {gs : List (DataW H)} {ps : List MemPlace}, DataW.TrodVars enc P W sp ns gs ps → gs.length = ns.length
  | [], [], _, _ => rfl
  | [], _ :: _, _, h => h.elim
  | _ :: _, [], _, h => h.elim
  | _ :: ns, _ :: gs, _, h => by
    obtain ⟨_, _, _, _, _, _, _, _, _, _, hs, _⟩ := h
    simp [reason_vars_length (ns := ns) (gs := gs) hs]
theorem eleven {α : Type} {l : List α} (h : l.length = 11) : ∃ a b c d e f g h i j k, l = [a, b, c, d, e, f, g, h, i, j, k] := by
  match l, h with
  | [a, b, c, d, e, f, g, h, i, j, k], _ => exact ⟨a, b, c, d, e, f, g, h, i, j, k, rfl⟩

set_option maxRecDepth 100000 in
theorem reason_lifted (os : Os) (started : os.Started) (H : Type) (enc : TypeId × Value → H) :
    ReturnsInHanded {} Tryd.checked os 4 .any (fun w args => (Rows.fnDefaultReasonSpec.pre enc Tryd.prog Tryd.f4 [] false w args ∧ laidMetH Tryd.prog Rows.fnDefaultReasonRow.laid w) ∧ sizedMet enc Tryd.prog Tryd.f4 (OpenSpec.ofChange Rows.fnDefaultReasonSpec) false w args)
      (Rows.fnDefaultReasonSpec.post enc Tryd.prog Tryd.f4 false true false false) := by
  refine returnsInHanded_of_change_and (C := Tryd.checked) (X := fun w _ => laidMetH Tryd.prog Rows.fnDefaultReasonRow.laid w) (fun _ _ _ hh h => h.of_heap hh) reason_own started (by kernel_rfl) Tryd.func4
    (ChangeSpec.witness_shaped (enc := enc) (C := Tryd.checked) (os := os) (X := fun w _ => laidMetH Tryd.prog Rows.fnDefaultReasonRow.laid w) false (World.laidAll Tryd.prog os Rows.fnDefaultReasonRow.laid) #[.int .i64 0] 8 (World.laidAll_os _ _ _)
      (World.shaped_of_ZipB (by kernel_rfl) (by kernel_rfl)) (by kernel_rfl) (by kernel_rfl) (by kernel_rfl)
      (by rw [MakeChecks.laidMetH_plain _ _ _ (by kernel_rfl)]; exact laidMet_laidAll _ (by kernel_rfl) (by kernel_rfl))) ?_
  intro W base args ds gs before hval0 hW _ _ _ _
  have hval : ∀ (j : Nat) t v, Tryd.f4.params[j]? = some t → args[j]? = some v → Value.okWide Tryd.prog W .any base t v := hval0
  have hW' := hW
  obtain ⟨p, q, hA0, hV, rfl, _, _⟩ := hW
  have hA : DataW.TrodAll enc Tryd.prog W 0 (fun _ => true) true Tryd.f4.params.toList args.toList ds p := hA0
  rw [Tryd.params4] at hA hval
  obtain ⟨v0, d0, rfl, rfl, h0⟩ := trodAll_one hA
  obtain ⟨n, rfl, rfl, rfl, wk⟩ := open_int Tryd.underlying3 (hval 0 3 v0 rfl rfl) h0
  obtain ⟨x1, x2, x3, x4, x5, x6, x7, x8, x9, x10, x11, rfl⟩ := eleven (reason_vars_length hV)
  refine (default_law n W).mono fun e W' ⟨he, hs⟩ => ?_
  subst he
  have hb : Below W.heap.size W W' := hs.below (Nat.le_refl _) (by simp)
  exact ⟨_, rfl, _, _, _, [], [], q, hW', trodAll_mk1 (shut_bool Tryd.underlying4 _), trodAll_mk1 (shut_int Tryd.underlying3 wk), hb.trodVars reason_laidOut (by kernel_rfl) hV, hb.frame _, fun h => by cases h⟩

theorem reason_said : Rows.FnDefaultReasonSaid :=
  OpenClaim.holds_of_wide 4 Tryd.f4 rfl rfl rfl rfl rfl rfl rfl ⟨rfl, rfl, rfl, rfl, rfl⟩ rfl rfl rfl rfl rfl (by kernel_rfl) Tryd.func4 (by kernel_rfl)
    (of_decide_eq_true (by kernel_rfl)) (by unfold Func.isWrapper; first | (rw [if_pos (by decide +kernel)]; kernel_rfl) | (rw [if_neg (by decide +kernel)]; exact ⟨rfl, rfl⟩))
    (fun os started H enc _ => reason_lifted os started H enc)

theorem reason_plain (f : FuncId) (fn : Func) (hf : Tryd.pinned.checked.prog.funcNamed "loop.example/pub-g03052/laws.FnDefaultReason" = some f) (hfn : Tryd.pinned.checked.prog.funcs[f]? = some fn) :
    true = Tryd.pinned.checked.prog.looks [] ∧ ∀ (j : Nat) t, fn.params[j]? = some t → Tryd.pinned.checked.prog.wantsStandIn t = false := by
  obtain rfl : f = 4 := Option.some.inj ((show Tryd.prog.funcNamed "loop.example/pub-g03052/laws.FnDefaultReason" = some 4 by kernel_rfl).symm.trans hf) |>.symm
  obtain rfl : fn = Tryd.f4 := (Option.some.inj (Tryd.func4.symm.trans hfn)).symm
  refine ⟨by kernel_rfl, fun j t ht => ?_⟩
  rw [Tryd.params4] at ht
  have hm : t ∈ [3] := by simpa using Array.mem_of_getElem? ht
  have hall : ([3].all fun u => !Tryd.prog.wantsStandIn u) = true := by kernel_rfl
  exact (show Tryd.prog.wantsStandIn t = false by simpa using List.all_eq_true.1 hall t hm)

/-- FnDefaultReason's card. -/
theorem reason_card : Rows.FnDefaultReasonCardSaid :=
  Claim7.holds_tied_plain_at .later [] _ _ _ _ reason_said (fun _ h => by cases h) (by kernel_rfl) (fun _ h => by cases h) fnDefaultReason_row_tie rfl ⟨rfl, rfl⟩ (by kernel_rfl) rfl reason_plain (by kernel_rfl)
#print axioms reason_card
end Go.Proofs.YtnpakacfdffbpaaDoor
