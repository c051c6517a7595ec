/- From the row's hypothesis on the listed variables to what the walks take: package netip's three variables. -/
import Derived.Test.YtmfdbcfpcifmcaaGreatDoorAddr4
import Derived.Test.YtmfdbcfpcifmcaaGreatDoorRows
import Derived.ProofKit
import Derived.LaidLaws
import Derived.LaidMore
namespace Go.Proofs.YtmfdbcfpcifmcaaGreatDoor
open Go.ChangeShapes Go.WideShapes Go.ChangeAt Go.RowKit

theorem handle_cell {W : World} {fuel : Nat} {cs : Array Value} {d : DataW Unit} {p : List MemPlace}
    (hd : DataW.trod (fun _ => ()) Tryz.prog W 0 (fun _ => true) false fuel 152 cs.toList = some (.agg [.ptr d], p)) : ∃ a q, cs = #[.pointer (some a)] ∧ p = MemPlace.row a 2 ++ q := by
  obtain ⟨xs, n, _, hx, hlen, hl, hf⟩ := DataW.trod_struct Tryz.underlying152 hd
  obtain ⟨l⟩ := cs
  have h1 : Tryz.prog.cellsOf 152 = 1 := by kernel_rfl
  have h2 : Tryz.prog.cellsOf 150 = 1 := by kernel_rfl
  have h3 : Tryz.prog.cellsOf 214 = 2 := by kernel_rfl
  rw [h1] at hlen
  obtain ⟨c, rfl⟩ := List.length_eq_one_iff.1 hlen
  obtain ⟨y, rfl⟩ := List.length_eq_one_iff.1 (hl.trans (by rfl))
  · clear hl hlen
    have h0 := hf 0 _ rfl
    change DataW.trod (fun _ => ()) Tryz.prog W 0 (fun _ => true) false n 150 ([c].take (Tryz.prog.cellsOf 150)) = some y at h0
    rw [h2] at h0
    change DataW.trod (fun _ => ()) Tryz.prog W 0 (fun _ => true) false n 150 [c] = some y at h0
    obtain ⟨ha, hb⟩ := Prod.mk.inj hx
    simp only [List.map_cons, List.map_nil, DataW.agg.injEq, List.cons.injEq, and_true] at ha
    obtain ⟨y1, y2⟩ := y
    simp only at ha
    subst ha
    obtain ⟨f', a, cs', q, hcs, _, _, hq⟩ := ptr_of_trod Tryz.underlying150 h0
    simp only [List.cons.injEq, and_true] at hcs
    subst hcs
    exact ⟨a, q, rfl, by simpa [h3] using hb.trans (by simp [hq, h3])⟩

theorem handle_nil {W : World} {fuel : Nat} {cs : Array Value} {p : List MemPlace}
    (hd : DataW.trod (fun _ => ()) Tryz.prog W 0 (fun _ => true) false fuel 152 cs.toList = some (.agg [.nil], p)) : cs = #[.pointer none] := by
  obtain ⟨xs, n, _, hx, hlen, hl, hf⟩ := DataW.trod_struct Tryz.underlying152 hd
  obtain ⟨l⟩ := cs
  have h1 : Tryz.prog.cellsOf 152 = 1 := by kernel_rfl
  have h2 : Tryz.prog.cellsOf 150 = 1 := by kernel_rfl
  rw [h1] at hlen
  obtain ⟨c, rfl⟩ := List.length_eq_one_iff.1 hlen
  obtain ⟨y, rfl⟩ := List.length_eq_one_iff.1 (hl.trans (by rfl))
  · clear hl hlen
    have h0 := hf 0 _ rfl
    change DataW.trod (fun _ => ()) Tryz.prog W 0 (fun _ => true) false n 150 ([c].take (Tryz.prog.cellsOf 150)) = some y at h0
    rw [h2] at h0
    change DataW.trod (fun _ => ()) Tryz.prog W 0 (fun _ => true) false n 150 [c] = some y at h0
    obtain ⟨ha, _⟩ := Prod.mk.inj hx
    simp only [List.map_cons, List.map_nil, DataW.agg.injEq, List.cons.injEq, and_true] at ha
    rcases DataW.trod_pointer Tryz.underlying150 h0 with ⟨hcs, _⟩ | ⟨a, cs', z, m, _, _, hy, _⟩
    · simp only [List.cons.injEq, and_true] at hcs
      rw [hcs]
    · rw [hy] at ha
      cases ha

theorem row_mem (a : Addr) (n : Nat) (h : 0 < n) : MemPlace.cell a.block a.off ∈ MemPlace.row a n := by
  simp only [MemPlace.row, List.mem_map, List.mem_range]
  exact ⟨0, h, rfl⟩

theorem glob_of_laid {W : World} (h : laidMetH Tryz.prog Rows.fnPairRow.laid W) : ∃ p4 p6, Glob W p4 p6 := by
  rw [MakeChecks.laidMetH_plain _ _ _ (by kernel_rfl)] at h
  obtain ⟨ps, ⟨g0, t0, cs0, fu0, q0, r0, hg0, ht0, hv0, hd0, ⟨g1, t1, cs1, fu1, q1, r1, hg1, ht1, hv1, hd1, ⟨g2, t2, cs2, fu2, q2, r2, hg2, ht2, hv2, hd2, ⟨g3, t3, cs3, fu3, q3, r3, hg3, ht3, hv3, hd3, _, hp3⟩, hp2⟩, hp1⟩, hp0⟩, hnd, hcell⟩ := h
  obtain rfl : g1 = 0 := Option.some.inj (hg1.symm.trans (by kernel_rfl))
  obtain rfl : g2 = 2 := Option.some.inj (hg2.symm.trans (by kernel_rfl))
  obtain rfl : g3 = 4 := Option.some.inj (hg3.symm.trans (by kernel_rfl))
  obtain rfl : t1 = 152 := Option.some.inj (ht1.symm.trans (by kernel_rfl))
  obtain rfl : t2 = 152 := Option.some.inj (ht2.symm.trans (by kernel_rfl))
  obtain rfl : t3 = 152 := Option.some.inj (ht3.symm.trans (by kernel_rfl))
  obtain ⟨p4, x4, hc1, hq1⟩ := handle_cell hd1
  obtain ⟨p6, x6, hc2, hq2⟩ := handle_cell hd2
  have hc3 := handle_nil hd3
  have m4 := row_mem p4 2 (by decide)
  have m6 := row_mem p6 2 (by decide)
  have i4 : MemPlace.cell p4.block p4.off ∈ q1 := by rw [hq1]; exact List.mem_append_left _ m4
  have i6 : MemPlace.cell p6.block p6.off ∈ q2 := by rw [hq2]; exact List.mem_append_left _ m6
  have k6 : MemPlace.cell p6.block p6.off ∈ r1 := by rw [hp2]; exact List.mem_append_left _ (List.mem_append_right _ i6)
  have l6 : MemPlace.cell p6.block p6.off ∈ r0 := by rw [hp1]; exact List.mem_append_right _ k6
  have l4 : MemPlace.cell p4.block p4.off ∈ r0 := by rw [hp1]; exact List.mem_append_left _ (List.mem_append_right _ i4)
  have n6 : MemPlace.cell p6.block p6.off ∈ ps := by rw [hp0]; exact List.mem_append_right _ l6
  have n4 : MemPlace.cell p4.block p4.off ∈ ps := by rw [hp0]; exact List.mem_append_right _ l4
  have hne : p4 ≠ p6 := by
    intro e
    rw [hp0, List.nodup_append] at hnd
    have h1 := hnd.2.1
    rw [hp1, List.nodup_append] at h1
    exact h1.2.2 _ (List.mem_append_right _ i4) _ k6 (by rw [e])
  refine ⟨p4, p6, ?_, ?_, ?_, hne, (hcell _ _ n4).1, (hcell _ _ n6).1⟩
  · simpa [hc1] using World.var?_cell hg1 hv1 0
  · simpa [hc2] using World.var?_cell hg2 hv2 0
  · simpa [hc3] using World.var?_cell hg3 hv3 0
end Go.Proofs.YtmfdbcfpcifmcaaGreatDoor
