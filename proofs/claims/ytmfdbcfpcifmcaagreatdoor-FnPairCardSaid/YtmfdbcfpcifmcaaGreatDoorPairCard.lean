/- The priority of a pair is made of both priorities, whoever controls: FnPair returns true for every bool and every two priorities. Conditions: the variables of Go's library that its row lists read as the card ties them. -/
import Derived.Test.YtmfdbcfpcifmcaaGreatDoorPairPrio
import Derived.Test.YtmfdbcfpcifmcaaGreatDoorClose
import Derived.Test.YtmfdbcfpcifmcaaGreatDoorCards
import Derived.Test.YtmfdbcfpcifmcaaGreatDoorTie
namespace Go.Proofs.YtmfdbcfpcifmcaaGreatDoor
open Go.ChangeShapes Go.WideShapes Go.ChangeAt Go.RowKit

set_option maxRecDepth 100000 in
theorem pair_lifted (os : Os) (started : os.Started) (H : Type) (enc : TypeId × Value → H) :
    ReturnsInHanded {} Tryz.checked os 4 .any (fun w args => (Rows.fnPairSpec.pre enc Tryz.prog Tryz.f4 Rows.fnPairRow.domain false w args ∧ laidMetH Tryz.prog Rows.fnPairRow.laid w) ∧ sizedMet enc Tryz.prog Tryz.f4 (OpenSpec.ofChange Rows.fnPairSpec) false w args)
      (Rows.fnPairSpec.post enc Tryz.prog Tryz.f4 false true false false) := by
  refine returnsInHanded_of_change_and (C := Tryz.checked) (X := fun w _ => laidMetH Tryz.prog Rows.fnPairRow.laid w) (fun _ _ _ hh h => h.of_heap hh) own started (by kernel_rfl) Tryz.func4
    (ChangeSpec.witness_shaped (enc := enc) (C := Tryz.checked) (os := os) (X := fun w _ => laidMetH Tryz.prog Rows.fnPairRow.laid w) false (World.laidAll Tryz.prog os Rows.fnPairRow.laid) #[.bool false, .int .u32 0, .int .u32 0] 8 (World.laidAll_os _ _ _)
      (World.shaped_of_ZipB (by kernel_rfl) (by kernel_rfl)) (by kernel_rfl) (by kernel_rfl) (by kernel_rfl)
      (by rw [MakeChecks.laidMetH_plain _ _ _ (by kernel_rfl)]; exact laidMet_laidAll _ (by kernel_rfl) (by kernel_rfl))) ?_
  intro W base args ds gs before hval0 hW hc _ hL _
  have hval : ∀ (j : Nat) t v, Tryz.f4.params[j]? = some t → args[j]? = some v → Value.okWide Tryz.prog W .any base t v := hval0
  have hW' := hW
  obtain ⟨p, q, hA0, hV, rfl, _, _⟩ := hW
  have hA : DataW.TrodAll enc Tryz.prog W 0 (fun _ => true) true Tryz.f4.params.toList args.toList ds p := hA0
  rw [Tryz.params4] at hA hval
  obtain ⟨v0, v1, v2, d0, d1, d2, p0, p1, p2, rfl, rfl, rfl, h0, h1, h2⟩ := trodAll_three hA
  obtain ⟨rfl, rfl⟩ := trodVars_none hV
  obtain ⟨c, rfl, rfl, rfl⟩ := open_bool Tryz.underlying4 (hval 0 4 v0 rfl rfl) h0
  obtain ⟨a, rfl, rfl, rfl, wa⟩ := open_int Tryz.underlying22 (hval 1 22 v1 rfl rfl) h1
  obtain ⟨b, rfl, rfl, rfl, wb⟩ := open_int Tryz.underlying22 (hval 2 22 v2 rfl rfl) h2
  clear hA0 hval0
  obtain ⟨p4, p6, hG⟩ := glob_of_laid hL
  have ha : 0 ≤ a ∧ a ≤ 4294967295 := u32_wf wa
  have hb : 0 ≤ b ∧ b ≤ 4294967295 := u32_wf wb
  refine (fnPair c a b ha hb W p4 p6 hG).mono fun e W' ⟨he, hb⟩ => ?_
  subst he
  exact ⟨_, rfl, law_post (t := 4) (by kernel_rfl) (by kernel_rfl) (by kernel_rfl) Tryz.underlying4 rfl ⟨rfl, rfl, rfl⟩ hW' hb⟩

theorem pair_said : Rows.FnPairSaid :=
  OpenClaim.holds_of_wide 4 Tryz.f4 rfl rfl rfl rfl rfl rfl rfl ⟨rfl, rfl, rfl, rfl, rfl⟩ rfl rfl rfl rfl rfl (by kernel_rfl) Tryz.func4 (by kernel_rfl)
    (of_decide_eq_true (by kernel_rfl)) (by unfold Func.isWrapper; first | (rw [if_pos (by decide +kernel)]; kernel_rfl) | (rw [if_neg (by decide +kernel)]; exact ⟨rfl, rfl⟩))
    (fun os started H enc _ => pair_lifted os started H enc)

theorem pair_plain (f : FuncId) (fn : Func) (hf : Tryz.pinned.checked.prog.funcNamed "pionice/laws.FnPair" = some f) (hfn : Tryz.pinned.checked.prog.funcs[f]? = some fn) :
    false = Tryz.pinned.checked.prog.looks [] ∧ ∀ (j : Nat) t, fn.params[j]? = some t → Tryz.pinned.checked.prog.wantsStandIn t = false := by
  obtain rfl : f = 4 := Option.some.inj ((show Tryz.prog.funcNamed "pionice/laws.FnPair" = some 4 by kernel_rfl).symm.trans hf) |>.symm
  obtain rfl : fn = Tryz.f4 := (Option.some.inj (Tryz.func4.symm.trans hfn)).symm
  refine ⟨by kernel_rfl, fun j t ht => ?_⟩
  rw [Tryz.params4] at ht
  have hm : t ∈ [4, 22, 22] := by simpa using Array.mem_of_getElem? ht
  have hall : ([4, 22, 22].all fun u => !Tryz.prog.wantsStandIn u) = true := by kernel_rfl
  exact (show Tryz.prog.wantsStandIn t = false by simpa using List.all_eq_true.1 hall t hm)

theorem fnPair_card : Rows.FnPairCardSaid :=
  Claim7.holds_tied_plain_at .later [] _ _ _ _ pair_said (fun _ h => by cases h) (by kernel_rfl) (fun _ h => by cases h) fnPair_row_tie rfl ⟨rfl, rfl⟩ (by kernel_rfl) rfl pair_plain (by kernel_rfl)
#print axioms fnPair_card
end Go.Proofs.YtmfdbcfpcifmcaaGreatDoor
