/- How a law's row and card are closed, once for all of this seat's laws. -/
import Derived.Test.YtmfdbcfpcifmcaaGreatDoorLaid
import Derived.ProofKit
import Derived.OpenShut
import Derived.LaidMore
import Derived.Lay
import Derived.SevenTiedAt
import Derived.Stop.Joined
namespace Go.Proofs.YtmfdbcfpcifmcaaGreatDoor
open Go.ChangeShapes Go.WideShapes Go.ChangeAt Go.RowKit

/-- The arguments read behind the call as they read before, if the call has turned no block that was there. -/
theorem args_stay {H : Type} {enc : TypeId × Value → H} {P : Program} (hl : laidOutB P = true) {W W' : World} (hb : Below W.heap.size W W') :
    ∀ {ts : List TypeId} {vs : List Value} {ds : List (DataW H)} {ps : List MemPlace}, (∀ t ∈ ts, P.readableRec t = true ∧ t < P.types.size) → (∀ x ∈ ps, x.block < W.heap.size) →
      DataW.TrodAll enc P W 0 (fun _ => true) true ts vs ds ps → DataW.TrodAll enc P W' 0 (fun b => decide (b < W.heap.size)) true ts vs ds ps
  | [], _, _, _, _, _, h => by
    obtain ⟨rfl, rfl, rfl⟩ := trodAll_nil h
    exact trodAll_mk0
  | t :: ts, _, _, _, ht, hp, h => by
    obtain ⟨v, vs, d, ds, p, q, rfl, rfl, rfl, h1, h2⟩ := trodAll_cons h
    have h0 := ht t (by simp)
    exact trodAll_cons_mk (h1 |> fun h1 => Below.trod hl h0.1 h0.2 h1 hb (fun x hx => hp x (List.mem_append_left _ hx)))
      (args_stay hl hb (fun u hu => ht u (List.mem_cons_of_mem _ hu)) (fun x hx => hp x (List.mem_append_right _ hx)) h2)

/-- The end of a law's row: the call came back with true and turned no block that was there. -/
theorem law_post {H : Type} {enc : TypeId × Value → H} {P : Program} {f : Func} {s : ChangeSpec} {t : TypeId} {W W' : World} {args : Array Value} {ds gs : List (DataW H)} {before : List MemPlace}
    (hl : laidOutB P = true) (hts : (f.params.toList.all fun u => P.readableRec u && decide (u < P.types.size)) = true) (hr : f.resultTypes = #[t]) (ht : P.underlying t = some .bool) (hv : s.vars = [])
    (hs : (s.fn H ds).results = [.lit (.bool true)] ∧ (s.fn H ds).args = ds ∧ (s.fn H ds).vars = [])
    (hW : DataW.Whole enc P f.params.toList s.vars false W args.toList ds gs before) (hb : Below W.heap.size W W') :
    s.post enc P f false true false false W args (.bool true) W' := by
  have hlt := hW.lt
  have hW' := hW
  obtain ⟨p, q, hA, hV, rfl, _, _⟩ := hW
  rw [hv] at hV
  obtain ⟨rfl, rfl⟩ := trodVars_none hV
  obtain ⟨h1, h2, h3⟩ := hs
  refine ⟨ds, [], p ++ [], [], p, [], hW', ?_, ?_, ?_, World.keptBut_mono (fun x hx => ⟨hx, .inr (.inl (by simpa using hx))⟩) (hb.frame _), fun h => by cases h⟩
  · rw [List.append_nil, h1, hr]
    exact trodAll_mk1 (shut_bool ht _)
  · rw [List.append_nil, h2]
    exact args_stay hl hb (fun u hu => by simpa using List.all_eq_true.1 hts u hu) (fun x hx => hlt x (by simpa using hx)) hA
  · rw [List.append_nil, h3, hv]
    rfl

theorem u32_wf {a : Int} (h : (Lit.int .u32 a).wf = true) : 0 ≤ a ∧ a ≤ 4294967295 := by
  simp [Lit.wf, IntKind.min, IntKind.max, IntKind.bits, IntKind.signed] at h
  omega
theorem i64_wf {a : Int} (h : (Lit.int .i64 a).wf = true) : -9223372036854775808 ≤ a ∧ a ≤ 9223372036854775807 := by
  simp [Lit.wf, IntKind.min, IntKind.max, IntKind.bits, IntKind.signed] at h
  omega
theorem own : ownKnob Tryz.prog.godebug = none := by kernel_rfl
end Go.Proofs.YtmfdbcfpcifmcaaGreatDoor
