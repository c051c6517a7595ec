/- The text of a candidate may have the attribute's name ahead of it: FnPrefix returns true for every candidate. Conditions: the variables of Go's library that its row lists read as the card ties them. -/
import Derived.Test.YtmfdbcfpcifmcaaGreatDoorPrefixLaw
import Derived.Test.YtmfdbcfpcifmcaaGreatDoorMc
import Derived.Test.YtmfdbcfpcifmcaaGreatDoorMe
import Derived.Test.YtmfdbcfpcifmcaaGreatDoorCards
import Derived.Test.YtmfdbcfpcifmcaaGreatDoorTie
namespace Go.Proofs.YtmfdbcfpcifmcaaGreatDoor
open Go.ChangeShapes Go.WideShapes Go.ChangeAt Go.RowKit

set_option maxRecDepth 100000 in
theorem prefix_lifted (os : Os) (started : os.Started) (H : Type) (enc : TypeId × Value → H) :
    ReturnsInHanded {} Tryz.checked os 9 .any (fun w args => (Rows.fnPrefixSpec.pre enc Tryz.prog Tryz.f9 Rows.fnPrefixRow.domain false w args ∧ laidMetH Tryz.prog Rows.fnPrefixRow.laid w) ∧ sizedMet enc Tryz.prog Tryz.f9 (OpenSpec.ofChange Rows.fnPrefixSpec) false w args)
      (Rows.fnPrefixSpec.post enc Tryz.prog Tryz.f9 false true false false) := by
  refine handed_both (C := Tryz.checked) (X := fun w _ => laidMetH Tryz.prog Rows.fnPrefixRow.laid w) (fun _ _ _ hh h => h.of_heap hh) own started (by kernel_rfl) Tryz.func9
    (ChangeSpec.witness_shaped (enc := enc) (C := Tryz.checked) (os := os) (X := fun w _ => laidMetH Tryz.prog Rows.fnPrefixRow.laid w) false (World.laidAll Tryz.prog os Rows.fnPrefixRow.laid) #[.agg #[.int .i64 0, .int .i64 0, .int .i64 0, .string ⟨#[]⟩, .int .i64 0, .int .u32 0, .string ⟨#[]⟩, .int .i64 0, .slice none 0 0, .slice none 0 0]] 8 (World.laidAll_os _ _ _)
      (World.shaped_of_ZipB (by kernel_rfl) (by kernel_rfl)) (by kernel_rfl) (by kernel_rfl) (by kernel_rfl)
      (by rw [MakeChecks.laidMetH_plain _ _ _ (by kernel_rfl)]; exact laidMet_laidAll _ (by kernel_rfl) (by kernel_rfl))) ?_
  intro W base args ds gs before hshape hL hval0 hW
  have hval : ∀ (j : Nat) t v, Tryz.f9.params[j]? = some t → args[j]? = some v → Value.okWide Tryz.prog W .any base t v := hval0
  have hW' := hW
  obtain ⟨p, q, hA0, hV, rfl, _, _⟩ := hW
  have hA : DataW.TrodAll enc Tryz.prog W 0 (fun _ => true) true Tryz.f9.params.toList args.toList ds p := hA0
  rw [Tryz.params9] at hA hval
  obtain ⟨v0, d0, rfl, rfl, h0⟩ := trodAll_one hA
  obtain ⟨rfl, rfl⟩ := trodVars_none hV
  obtain ⟨kind, net, tcp, found, comp, prio, addr, port, A8, A9, m8, m9, l8, l9, rfl, hc8, hc9, C8, C9, wk, wn, wt, wc, wp, wq⟩ := open_cand (hval 0 26 v0 rfl rfl) h0
  clear hA0 hval0
  obtain ⟨p4, p6, hG⟩ := glob_of_laid hL
  refine (fnPrefix kind net tcp found comp prio addr port A8 A9 m8 m9 l8 l9 hc8 hc9 W C8 C9 p4 p6 hG (u32_wf wp).1 (by have := (u32_wf wp).2; omega)).mono fun e W' ⟨he, hb⟩ => ?_
  subst he
  exact ⟨_, rfl, law_post (t := 4) (by kernel_rfl) (by kernel_rfl) (by kernel_rfl) Tryz.underlying4 rfl ⟨rfl, rfl, rfl⟩ hW' hb⟩

theorem prefix_said : Rows.FnPrefixSaid :=
  OpenClaim.holds_of_wide 9 Tryz.f9 rfl rfl rfl rfl rfl rfl rfl ⟨rfl, rfl, rfl, rfl, rfl⟩ rfl rfl rfl rfl rfl (by kernel_rfl) Tryz.func9 (by kernel_rfl)
    (of_decide_eq_true (by kernel_rfl)) (by unfold Func.isWrapper; first | (rw [if_pos (by decide +kernel)]; kernel_rfl) | (rw [if_neg (by decide +kernel)]; exact ⟨rfl, rfl⟩))
    (fun os started H enc _ => prefix_lifted os started H enc)

theorem prefix_plain (f : FuncId) (fn : Func) (hf : Tryz.pinned.checked.prog.funcNamed "pionice/laws.FnPrefix" = some f) (hfn : Tryz.pinned.checked.prog.funcs[f]? = some fn) :
    false = Tryz.pinned.checked.prog.looks [] ∧ ∀ (j : Nat) t, fn.params[j]? = some t → Tryz.pinned.checked.prog.wantsStandIn t = false := by
  obtain rfl : f = 9 := Option.some.inj ((show Tryz.prog.funcNamed "pionice/laws.FnPrefix" = some 9 by kernel_rfl).symm.trans hf) |>.symm
  obtain rfl : fn = Tryz.f9 := (Option.some.inj (Tryz.func9.symm.trans hfn)).symm
  refine ⟨by kernel_rfl, fun j t ht => ?_⟩
  rw [Tryz.params9] at ht
  have hm : t ∈ [26] := by simpa using Array.mem_of_getElem? ht
  have hall : ([26].all fun u => !Tryz.prog.wantsStandIn u) = true := by kernel_rfl
  exact (show Tryz.prog.wantsStandIn t = false by simpa using List.all_eq_true.1 hall t hm)

theorem fnPrefix_card : Rows.FnPrefixCardSaid :=
  Claim7.holds_tied_plain_at .later [] _ _ _ _ prefix_said (fun _ h => by cases h) (by kernel_rfl) (fun _ h => by cases h) fnPrefix_row_tie rfl ⟨rfl, rfl⟩ (by kernel_rfl) rfl prefix_plain (by kernel_rfl)
#print axioms fnPrefix_card
end Go.Proofs.YtmfdbcfpcifmcaaGreatDoor
