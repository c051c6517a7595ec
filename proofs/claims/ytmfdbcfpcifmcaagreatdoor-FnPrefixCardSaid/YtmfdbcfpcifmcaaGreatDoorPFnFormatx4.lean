-- PRINTED BY print.sh 35421559b90ae4d0a3588c463048766b98c2df88dd9212a6774a882060cdf62d: not written by this session
import Derived.Test.YtmfdbcfpcifmcaaGreatDoorPFnFormatx0
namespace Go.Proofs.YtmfdbcfpcifmcaaGreatDoor.PFnFormat
open Go.RowKit Go.Proofs.YtmfdbcfpcifmcaaGreatDoorW.PrintWords Go.Proofs.YtmfdbcfpcifmcaaGreatDoorW.PrintLast Go.Proofs.YtmfdbcfpcifmcaaGreatDoorW.PrintMore
attribute [local go_sem] max2_int min2_int max_two min_two max_three min_three max_four min_four   -- for this text's walks alone
set_option linter.unusedVariables false
set_option linter.unusedSimpArgs false

/-! ### laws_candidate: function 12 -/
mutual
def laws_candidate.l0 : Nat → List (S59) → Int → Int → Int → Int → Int → ByteArray → Int → Int → ByteArray → Int → List (S59) → List (S62) → Int → Int → Int → ByteArray → Int → Int → ByteArray → Int → List (S60) → Option (Int × Int × Int × ByteArray × Int × Int × ByteArray × Int × (List (S60)) × (List (S63)))
  | 0, _, _, _, _, _, _, _, _, _, _, _, _, _, _, _, _, _, _, _, _, _, _ => none
  | k + 1, x26, x27, x28, x113000, x113001, x113002, x113003, x113004, x113005, x113006, x113007, x113008, x113009, x115000, x115001, x115002, x115003, x115004, x115005, x115006, x115007, x115008 => if x28 < x27 then (if 0 ≤ x28 then (if x28 < (x26.length : Int) then (if x115008.length < 5864062014805 then (laws_candidate.l0 k x26 x27 (wrap64 (x28 + 1)) x113000 x113001 x113002 x113003 x113004 x113005 x113006 x113007 x113008 x113009 x115000 x115001 x115002 x115003 x115004 x115005 x115006 x115007 (x115008 ++ [(⟨(rd_T59 x26 x28).f0, (rd_T59 x26 x28).f1⟩ : S60)])) else (none)) else (none)) else (none)) else (laws_candidate.l1 k x113009 (x113009.length : Int) 0 x115000 x115001 x115002 x115003 x115004 x115005 x115006 x115007 x115008 ([] : List (S63)))
def laws_candidate.l1 : Nat → List (S62) → Int → Int → Int → Int → Int → ByteArray → Int → Int → ByteArray → Int → List (S60) → List (S63) → Option (Int × Int × Int × ByteArray × Int × Int × ByteArray × Int × (List (S60)) × (List (S63)))
  | 0, _, _, _, _, _, _, _, _, _, _, _, _, _ => none
  | k + 1, x44, x45, x46, x115000, x115001, x115002, x115003, x115004, x115005, x115006, x115007, x115008, x115009 => if x46 < x45 then (if 0 ≤ x46 then (if x46 < (x44.length : Int) then (if x115009.length < 4398046511104 then (laws_candidate.l1 k x44 x45 (wrap64 (x46 + 1)) x115000 x115001 x115002 x115003 x115004 x115005 x115006 x115007 x115008 (x115009 ++ [(⟨(rd_T62 x44 x46).f0, (rd_T62 x44 x46).f1⟩ : S63)])) else (none)) else (none)) else (none)) else (some (x115000, x115001, x115002, x115003, x115004, x115005, x115006, x115007, x115008, x115009))
end
def laws_candidate.f (k : Nat) (a0_0 : Int) (a0_1 : Int) (a0_2 : Int) (a0_3 : ByteArray) (a0_4 : Int) (a0_5 : Int) (a0_6 : ByteArray) (a0_7 : Int) (l0_8 : List (S59)) (l0_9 : List (S62)) : Option (Int × Int × Int × ByteArray × Int × Int × ByteArray × Int × (List (S60)) × (List (S63))) := laws_candidate.l0 k l0_8 (l0_8.length : Int) 0 a0_0 a0_1 a0_2 a0_3 a0_4 a0_5 a0_6 a0_7 l0_8 l0_9 a0_0 a0_1 a0_2 a0_3 a0_4 a0_5 a0_6 a0_7 ([] : List (S60))
theorem laws_candidate.mono_l : ∀ k, (∀ y0 y1 y2 y3 y4 y5 y6 y7 y8 y9 y10 y11 y12 y13 y14 y15 y16 y17 y18 y19 y20 y21, LeO (laws_candidate.l0 k y0 y1 y2 y3 y4 y5 y6 y7 y8 y9 y10 y11 y12 y13 y14 y15 y16 y17 y18 y19 y20 y21) (laws_candidate.l0 (k + 1) y0 y1 y2 y3 y4 y5 y6 y7 y8 y9 y10 y11 y12 y13 y14 y15 y16 y17 y18 y19 y20 y21)) ∧ (∀ y0 y1 y2 y3 y4 y5 y6 y7 y8 y9 y10 y11 y12, LeO (laws_candidate.l1 k y0 y1 y2 y3 y4 y5 y6 y7 y8 y9 y10 y11 y12) (laws_candidate.l1 (k + 1) y0 y1 y2 y3 y4 y5 y6 y7 y8 y9 y10 y11 y12))
  | 0 => ⟨fun _ _ _ _ _ _ _ _ _ _ _ _ _ _ _ _ _ _ _ _ _ _ r h => by simp [laws_candidate.l0] at h, fun _ _ _ _ _ _ _ _ _ _ _ _ _ r h => by simp [laws_candidate.l1] at h⟩
  | k + 1 => by
    obtain ⟨ih0, ih1⟩ := laws_candidate.mono_l k
    refine ⟨?_, ?_⟩
    · intro y0 y1 y2 y3 y4 y5 y6 y7 y8 y9 y10 y11 y12 y13 y14 y15 y16 y17 y18 y19 y20 y21
      unfold laws_candidate.l0
      repeat' first
      | (with_reducible exact ih0 _ _ _ _ _ _ _ _ _ _ _ _ _ _ _ _ _ _ _ _ _ _)
      | (with_reducible exact ih1 _ _ _ _ _ _ _ _ _ _ _ _ _)
      | (with_reducible exact LeO.refl _)
      | (with_reducible exact LeO.none _)
      | (with_reducible refine LeO.ite ?_ ?_)
      | (with_reducible refine LeO.bind ?_ (fun _ => ?_))
      | exact ih0 _ _ _ _ _ _ _ _ _ _ _ _ _ _ _ _ _ _ _ _ _ _
      | exact ih1 _ _ _ _ _ _ _ _ _ _ _ _ _
      | exact LeO.none _
      | refine LeO.ite ?_ ?_
      | refine LeO.bind ?_ (fun _ => ?_)
    · intro y0 y1 y2 y3 y4 y5 y6 y7 y8 y9 y10 y11 y12
      unfold laws_candidate.l1
      repeat' first
      | (with_reducible exact ih0 _ _ _ _ _ _ _ _ _ _ _ _ _ _ _ _ _ _ _ _ _ _)
      | (with_reducible exact ih1 _ _ _ _ _ _ _ _ _ _ _ _ _)
      | (with_reducible exact LeO.refl _)
      | (with_reducible exact LeO.none _)
      | (with_reducible refine LeO.ite ?_ ?_)
      | (with_reducible refine LeO.bind ?_ (fun _ => ?_))
      | exact ih0 _ _ _ _ _ _ _ _ _ _ _ _ _ _ _ _ _ _ _ _ _ _
      | exact ih1 _ _ _ _ _ _ _ _ _ _ _ _ _
      | exact LeO.none _
      | refine LeO.ite ?_ ?_
      | refine LeO.bind ?_ (fun _ => ?_)
theorem laws_candidate.mono : ∀ a0 a1 a2 a3 a4 a5 a6 a7 a8 a9 k, LeO (laws_candidate.f k a0 a1 a2 a3 a4 a5 a6 a7 a8 a9) (laws_candidate.f (k + 1) a0 a1 a2 a3 a4 a5 a6 a7 a8 a9) := by
  intro a0 a1 a2 a3 a4 a5 a6 a7 a8 a9 k
  obtain ⟨ih0, ih1⟩ := laws_candidate.mono_l k
  unfold laws_candidate.f
  repeat' first
      | (with_reducible exact ih0 _ _ _ _ _ _ _ _ _ _ _ _ _ _ _ _ _ _ _ _ _ _)
      | (with_reducible exact ih1 _ _ _ _ _ _ _ _ _ _ _ _ _)
      | (with_reducible exact LeO.refl _)
      | (with_reducible exact LeO.none _)
      | (with_reducible refine LeO.ite ?_ ?_)
      | (with_reducible refine LeO.bind ?_ (fun _ => ?_))
      | exact ih0 _ _ _ _ _ _ _ _ _ _ _ _ _ _ _ _ _ _ _ _ _ _
      | exact ih1 _ _ _ _ _ _ _ _ _ _ _ _ _
      | exact LeO.none _
      | refine LeO.ite ?_ ?_
      | refine LeO.bind ?_ (fun _ => ?_)
set_option maxHeartbeats 8000000 in
set_option maxRecDepth 100000 in
theorem laws_candidate.calls (k : Nat) (a0_0 : Int) (a0_1 : Int) (a0_2 : Int) (a0_3 : ByteArray) (a0_4 : Int) (a0_5 : Int) (a0_6 : ByteArray) (a0_7 : Int) (A0_8 : Option Addr) (c0_8 : Nat) (l0_8 : List (S59)) (A0_9 : Option Addr) (c0_9 : Nat) (l0_9 : List (S62)) (r1 : Int) (r2 : Int) (r3 : Int) (r4 : ByteArray) (r5 : Int) (r6 : Int) (r7 : ByteArray) (r8 : Int) (r9 : List (S60)) (r10 : List (S63)) (w : World) (hr0_8 : Kd.C k59 w A0_8 l0_8.length l0_8) (hc0_8 : l0_8.length ≤ c0_8) (hr0_9 : Kd.C k62 w A0_9 l0_9.length l0_9) (hc0_9 : l0_9.length ≤ c0_9) (h : laws_candidate.f k a0_0 a0_1 a0_2 a0_3 a0_4 a0_5 a0_6 a0_7 l0_8 l0_9 = some (r1, r2, r3, r4, r5, r6, r7, r8, r9, r10)) :
    Calls Tryz.prog 12 #[.agg #[.int .i64 a0_0, .int .i64 a0_1, .int .i64 a0_2, .string a0_3, .int .i64 a0_4, .int .u32 a0_5, .string a0_6, .int .i64 a0_7, .slice A0_8 l0_8.length c0_8, .slice A0_9 l0_9.length c0_9]] w fun e w' => ∃ v8_ v9_ : Value, e = .returned (.agg #[.int .i64 r1, .int .i64 r2, .int .i64 r3, .string r4, .int .i64 r5, .int .u32 r6, .string r7, .int .i64 r8, v8_, v9_]) ∧ Kd.R k60 60 w' w.heap.size (fun _ => True) v8_ r9 ∧ Kd.R k63 63 w' w.heap.size (fun _ => True) v9_ r10 ∧ Below w.heap.size w w' := by
  have hu26 := Tryz.underlying26
  have hu31 := Tryz.underlying31
  have hu59 := Tryz.underlying59
  have hu60 := Tryz.underlying60
  have hu62 := Tryz.underlying62
  have hu63 := Tryz.underlying63
  have HR0_8 := Aside0.mk hr0_8
  have HC0_8 := Aside0.mk hc0_8
  clear hr0_8 hc0_8
  have HR0_9 := Aside0.mk hr0_9
  have HC0_9 := Aside0.mk hc0_9
  clear hr0_9 hc0_9
  have HB := Aside0.mk (Below.refl w.heap.size w)
  have H : (laws_candidate.l0 k l0_8 (l0_8.length : Int) 0 a0_0 a0_1 a0_2 a0_3 a0_4 a0_5 a0_6 a0_7 l0_8 l0_9 a0_0 a0_1 a0_2 a0_3 a0_4 a0_5 a0_6 a0_7 ([] : List (S60))) = some (r1, r2, r3, r4, r5, r6, r7, r8, r9, r10) := h
  clear h
  have H' := Aside0.mk H
  clear H
  go_enter Tryz.func12, Tryz.ntmps12
  go_wp2_with (first | ((with_reducible refine gate_dst (N := 1) rfl ?_); refine box_event ?hg (N := 1) ?hd (cs := #[.int .i64 a0_0, .int .i64 a0_1, .int .i64 a0_2, .string a0_3, .int .i64 a0_4, .int .u32 a0_5, .string a0_6, .int .i64 a0_7, .slice A0_8 l0_8.length c0_8, .slice A0_9 l0_9.length c0_9]) (t := 26) ?hr ?_; (case hd => rfl); (case hg => rfl); (case hr => first | (go_simp; done) | (go_simp; rfl)); intro gb112 hg w2 hbox hb; have n0_ := Aside0.mk (below_step (by repeat (first | (with_reducible first | exact HB.out | apply below_alloc | apply pw_below_drewN | apply below_drew1) | exact HB.out)) hb); have n1_ := Aside0.mk (hbox); have n2_ := Aside0.mk ((by rw [hg]; exact (below_size (by repeat (first | (with_reducible first | exact HB.out | apply below_alloc | apply pw_below_drewN | apply below_drew1) | exact HB.out))) : w.heap.size ≤ gb112)); have n3_ := Aside0.mk ((by rw [hg]; exact (below_size (by repeat (first | (with_reducible first | exact HB.out | apply below_alloc | apply pw_below_drewN | apply below_drew1) | exact HB.out))) : w.heap.size ≤ gb112)); clear HB; have HB := n0_; have BK112 := n1_; have GW112 := n2_; have GE112 := n3_; clear n0_ n1_ n2_ n3_; clear hb hbox hg) | ((with_reducible refine gate_dst (N := 2) rfl ?_); refine box_event ?hg (N := 2) ?hd (cs := #[.int .i64 0, .int .i64 0, .int .i64 0, .string (⟨#[]⟩ : ByteArray), .int .i64 0, .int .u32 0, .string (⟨#[]⟩ : ByteArray), .int .i64 0, .slice none 0 0, .slice none 0 0]) (t := 31) ?hr ?_; (case hd => rfl); (case hg => rfl); (case hr => first | (go_simp; done) | (go_simp; rfl)); intro gb113 hg w3 hbox hb; have n0_ := Aside0.mk (blk_below (g := gb112) (o := .cells #[.int .i64 a0_0, .int .i64 a0_1, .int .i64 a0_2, .string a0_3, .int .i64 a0_4, .int .u32 a0_5, .string a0_6, .int .i64 a0_7, .slice A0_8 l0_8.length c0_8, .slice A0_9 l0_9.length c0_9] 26 (0, 0)) (by (with_reducible repeat (first | refine blk_drewN ?_ _ | refine blk_drew ?_ | refine blk_alloc ?_ _)); exact BK112.out) hb); have n1_ := Aside0.mk (below_step (by repeat (first | (with_reducible first | exact HB.out | apply below_alloc | apply pw_below_drewN | apply below_drew1 | refine below_set ?_ GE112.out) | exact HB.out)) hb); have n2_ := Aside0.mk (hbox); have n3_ := Aside0.mk ((by rw [hg]; exact (below_size (by repeat (first | (with_reducible first | exact HB.out | apply below_alloc | apply pw_below_drewN | apply below_drew1 | refine below_set ?_ GE112.out) | exact HB.out))) : w.heap.size ≤ gb113)); have n4_ := Aside0.mk ((by rw [hg]; exact (below_size (by repeat (first | (with_reducible first | exact HB.out | apply below_alloc | apply pw_below_drewN | apply below_drew1 | refine below_set ?_ GE112.out) | exact HB.out))) : w.heap.size ≤ gb113)); have n5_ := Aside0.mk ((by rw [hg]; exact Nat.ne_of_lt (blk_lt (g := gb112) (o := .cells #[.int .i64 a0_0, .int .i64 a0_1, .int .i64 a0_2, .string a0_3, .int .i64 a0_4, .int .u32 a0_5, .string a0_6, .int .i64 a0_7, .slice A0_8 l0_8.length c0_8, .slice A0_9 l0_9.length c0_9] 26 (0, 0)) (by (with_reducible repeat (first | refine blk_drewN ?_ _ | refine blk_drew ?_ | refine blk_alloc ?_ _)); exact BK112.out)) : gb112 ≠ gb113)); have n6_ := Aside0.mk ((by rw [hg]; exact Nat.ne_of_gt (blk_lt (g := gb112) (o := .cells #[.int .i64 a0_0, .int .i64 a0_1, .int .i64 a0_2, .string a0_3, .int .i64 a0_4, .int .u32 a0_5, .string a0_6, .int .i64 a0_7, .slice A0_8 l0_8.length c0_8, .slice A0_9 l0_9.length c0_9] 26 (0, 0)) (by (with_reducible repeat (first | refine blk_drewN ?_ _ | refine blk_drew ?_ | refine blk_alloc ?_ _)); exact BK112.out)) : gb113 ≠ gb112)); clear BK112; clear HB; have BK112 := n0_; have HB := n1_; have BK113 := n2_; have GW113 := n3_; have GE113 := n4_; have NB112_113 := n5_; have NB113_112 := n6_; clear n0_ n1_ n2_ n3_ n4_ n5_ n6_; clear hb hbox hg; have hnb4 := NB112_113.out; have hnc4 := NB113_112.out; have hcz5_0 : w3.cell? ⟨gb112, 0, none⟩ = some (.int .i64 a0_0) := (blk_cell BK112.out 0).trans rfl; have hcz5_1 : w3.cell? ⟨gb112, 1, none⟩ = some (.int .i64 a0_1) := (blk_cell BK112.out 1).trans rfl; have hcz5_2 : w3.cell? ⟨gb112, 2, none⟩ = some (.int .i64 a0_2) := (blk_cell BK112.out 2).trans rfl; have hcz5_3 : w3.cell? ⟨gb112, 3, none⟩ = some (.string a0_3) := (blk_cell BK112.out 3).trans rfl; have hcz5_4 : w3.cell? ⟨gb112, 4, none⟩ = some (.int .i64 a0_4) := (blk_cell BK112.out 4).trans rfl; have hcz5_5 : w3.cell? ⟨gb112, 5, none⟩ = some (.int .u32 a0_5) := (blk_cell BK112.out 5).trans rfl; have hcz5_6 : w3.cell? ⟨gb112, 6, none⟩ = some (.string a0_6) := (blk_cell BK112.out 6).trans rfl; have hcz5_7 : w3.cell? ⟨gb112, 7, none⟩ = some (.int .i64 a0_7) := (blk_cell BK112.out 7).trans rfl; have hcz5_8 : w3.cell? ⟨gb112, 8, none⟩ = some (.slice A0_8 l0_8.length c0_8) := (blk_cell BK112.out 8).trans rfl; have hcz5_9 : w3.cell? ⟨gb112, 9, none⟩ = some (.slice A0_9 l0_9.length c0_9) := (blk_cell BK112.out 9).trans rfl; have hfz5_0 := blk_frozen BK112.out 0; have hfz5_1 := blk_frozen BK112.out 1; have hfz5_2 := blk_frozen BK112.out 2; have hfz5_3 := blk_frozen BK112.out 3; have hfz5_4 := blk_frozen BK112.out 4; have hfz5_5 := blk_frozen BK112.out 5; have hfz5_6 := blk_frozen BK112.out 6; have hfz5_7 := blk_frozen BK112.out 7; have hfz5_8 := blk_frozen BK112.out 8; have hfz5_9 := blk_frozen BK112.out 9) | ((with_reducible refine gate_dst (N := 3) rfl ?_); refine box_event ?hg (N := 3) ?hd (cs := #[.int .i64 0, .int .i64 0, .int .i64 0, .string (⟨#[]⟩ : ByteArray), .int .i64 0, .int .u32 0, .string (⟨#[]⟩ : ByteArray), .int .i64 0, .slice none 0 0, .slice none 0 0]) (t := 31) ?hr ?_; (case hd => rfl); (case hg => rfl); (case hr => first | (go_simp; done) | (go_simp; rfl)); intro gb114 hg w6 hbox hb; have n0_ := Aside0.mk (blk_below (g := gb112) (o := .cells #[.int .i64 a0_0, .int .i64 a0_1, .int .i64 a0_2, .string a0_3, .int .i64 a0_4, .int .u32 a0_5, .string a0_6, .int .i64 a0_7, .slice A0_8 l0_8.length c0_8, .slice A0_9 l0_9.length c0_9] 26 (0, 0)) (by (with_reducible repeat (first | refine blk_drewN ?_ _ | refine blk_drew ?_ | refine blk_alloc ?_ _)); exact BK112.out) hb); have n1_ := Aside0.mk (blk_below (g := gb113) (o := .cells #[.int .i64 0, .int .i64 0, .int .i64 0, .string (⟨#[]⟩ : ByteArray), .int .i64 0, .int .u32 0, .string (⟨#[]⟩ : ByteArray), .int .i64 0, .slice none 0 0, .slice none 0 0] 31 (0, 0)) (by (with_reducible repeat (first | refine blk_drewN ?_ _ | refine blk_drew ?_ | refine blk_alloc ?_ _)); exact BK113.out) hb); have n2_ := Aside0.mk (below_step (by repeat (first | (with_reducible first | exact HB.out | apply below_alloc | apply pw_below_drewN | apply below_drew1 | refine below_set ?_ GE112.out | refine below_set ?_ GE113.out) | exact HB.out)) hb); have n3_ := Aside0.mk (hbox); have n4_ := Aside0.mk ((by rw [hg]; exact (below_size (by repeat (first | (with_reducible first | exact HB.out | apply below_alloc | apply pw_below_drewN | apply below_drew1 | refine below_set ?_ GE112.out | refine below_set ?_ GE113.out) | exact HB.out))) : w.heap.size ≤ gb114)); have n5_ := Aside0.mk ((by rw [hg]; exact (below_size (by repeat (first | (with_reducible first | exact HB.out | apply below_alloc | apply pw_below_drewN | apply below_drew1 | refine below_set ?_ GE112.out | refine below_set ?_ GE113.out) | exact HB.out))) : w.heap.size ≤ gb114)); have n6_ := Aside0.mk ((by rw [hg]; exact Nat.ne_of_lt (blk_lt (g := gb112) (o := .cells #[.int .i64 a0_0, .int .i64 a0_1, .int .i64 a0_2, .string a0_3, .int .i64 a0_4, .int .u32 a0_5, .string a0_6, .int .i64 a0_7, .slice A0_8 l0_8.length c0_8, .slice A0_9 l0_9.length c0_9] 26 (0, 0)) (by (with_reducible repeat (first | refine blk_drewN ?_ _ | refine blk_drew ?_ | refine blk_alloc ?_ _)); exact BK112.out)) : gb112 ≠ gb114)); have n7_ := Aside0.mk ((by rw [hg]; exact Nat.ne_of_gt (blk_lt (g := gb112) (o := .cells #[.int .i64 a0_0, .int .i64 a0_1, .int .i64 a0_2, .string a0_3, .int .i64 a0_4, .int .u32 a0_5, .string a0_6, .int .i64 a0_7, .slice A0_8 l0_8.length c0_8, .slice A0_9 l0_9.length c0_9] 26 (0, 0)) (by (with_reducible repeat (first | refine blk_drewN ?_ _ | refine blk_drew ?_ | refine blk_alloc ?_ _)); exact BK112.out)) : gb114 ≠ gb112)); have n8_ := Aside0.mk ((by rw [hg]; exact Nat.ne_of_lt (blk_lt (g := gb113) (o := .cells #[.int .i64 0, .int .i64 0, .int .i64 0, .string (⟨#[]⟩ : ByteArray), .int .i64 0, .int .u32 0, .string (⟨#[]⟩ : ByteArray), .int .i64 0, .slice none 0 0, .slice none 0 0] 31 (0, 0)) (by (with_reducible repeat (first | refine blk_drewN ?_ _ | refine blk_drew ?_ | refine blk_alloc ?_ _)); exact BK113.out)) : gb113 ≠ gb114)); have n9_ := Aside0.mk ((by rw [hg]; exact Nat.ne_of_gt (blk_lt (g := gb113) (o := .cells #[.int .i64 0, .int .i64 0, .int .i64 0, .string (⟨#[]⟩ : ByteArray), .int .i64 0, .int .u32 0, .string (⟨#[]⟩ : ByteArray), .int .i64 0, .slice none 0 0, .slice none 0 0] 31 (0, 0)) (by (with_reducible repeat (first | refine blk_drewN ?_ _ | refine blk_drew ?_ | refine blk_alloc ?_ _)); exact BK113.out)) : gb114 ≠ gb113)); clear BK112; clear BK113; clear HB; have BK112 := n0_; have BK113 := n1_; have HB := n2_; have BK114 := n3_; have GW114 := n4_; have GE114 := n5_; have NB112_114 := n6_; have NB114_112 := n7_; have NB113_114 := n8_; have NB114_113 := n9_; clear n0_ n1_ n2_ n3_ n4_ n5_ n6_ n7_ n8_ n9_; clear hb hbox hg; have hnb7 := NB114_112.out; have hnc7 := NB112_114.out; have hnb8 := NB114_113.out; have hnc8 := NB113_114.out; have hcz9_0 : w6.cell? ⟨gb114, 0, none⟩ = some (.int .i64 0) := (blk_cell BK114.out 0).trans rfl; have hcz9_1 : w6.cell? ⟨gb114, 1, none⟩ = some (.int .i64 0) := (blk_cell BK114.out 1).trans rfl; have hcz9_2 : w6.cell? ⟨gb114, 2, none⟩ = some (.int .i64 0) := (blk_cell BK114.out 2).trans rfl; have hcz9_3 : w6.cell? ⟨gb114, 3, none⟩ = some (.string (⟨#[]⟩ : ByteArray)) := (blk_cell BK114.out 3).trans rfl; have hcz9_4 : w6.cell? ⟨gb114, 4, none⟩ = some (.int .i64 0) := (blk_cell BK114.out 4).trans rfl; have hcz9_5 : w6.cell? ⟨gb114, 5, none⟩ = some (.int .u32 0) := (blk_cell BK114.out 5).trans rfl; have hcz9_6 : w6.cell? ⟨gb114, 6, none⟩ = some (.string (⟨#[]⟩ : ByteArray)) := (blk_cell BK114.out 6).trans rfl; have hcz9_7 : w6.cell? ⟨gb114, 7, none⟩ = some (.int .i64 0) := (blk_cell BK114.out 7).trans rfl; have hcz9_8 : w6.cell? ⟨gb114, 8, none⟩ = some (.slice none 0 0) := (blk_cell BK114.out 8).trans rfl; have hcz9_9 : w6.cell? ⟨gb114, 9, none⟩ = some (.slice none 0 0) := (blk_cell BK114.out 9).trans rfl; have hfz9_0 := blk_frozen BK114.out 0; have hfz9_1 := blk_frozen BK114.out 1; have hfz9_2 := blk_frozen BK114.out 2; have hfz9_3 := blk_frozen BK114.out 3; have hfz9_4 := blk_frozen BK114.out 4; have hfz9_5 := blk_frozen BK114.out 5; have hfz9_6 := blk_frozen BK114.out 6; have hfz9_7 := blk_frozen BK114.out 7; have hfz9_8 := blk_frozen BK114.out 8; have hfz9_9 := blk_frozen BK114.out 9; have hcz10_0 : w6.cell? ⟨gb112, 0, none⟩ = some (.int .i64 a0_0) := (blk_cell BK112.out 0).trans rfl; have hcz10_1 : w6.cell? ⟨gb112, 1, none⟩ = some (.int .i64 a0_1) := (blk_cell BK112.out 1).trans rfl; have hcz10_2 : w6.cell? ⟨gb112, 2, none⟩ = some (.int .i64 a0_2) := (blk_cell BK112.out 2).trans rfl; have hcz10_3 : w6.cell? ⟨gb112, 3, none⟩ = some (.string a0_3) := (blk_cell BK112.out 3).trans rfl; have hcz10_4 : w6.cell? ⟨gb112, 4, none⟩ = some (.int .i64 a0_4) := (blk_cell BK112.out 4).trans rfl; have hcz10_5 : w6.cell? ⟨gb112, 5, none⟩ = some (.int .u32 a0_5) := (blk_cell BK112.out 5).trans rfl; have hcz10_6 : w6.cell? ⟨gb112, 6, none⟩ = some (.string a0_6) := (blk_cell BK112.out 6).trans rfl; have hcz10_7 : w6.cell? ⟨gb112, 7, none⟩ = some (.int .i64 a0_7) := (blk_cell BK112.out 7).trans rfl; have hcz10_8 : w6.cell? ⟨gb112, 8, none⟩ = some (.slice A0_8 l0_8.length c0_8) := (blk_cell BK112.out 8).trans rfl; have hcz10_9 : w6.cell? ⟨gb112, 9, none⟩ = some (.slice A0_9 l0_9.length c0_9) := (blk_cell BK112.out 9).trans rfl; have hfz10_0 := blk_frozen BK112.out 0; have hfz10_1 := blk_frozen BK112.out 1; have hfz10_2 := blk_frozen BK112.out 2; have hfz10_3 := blk_frozen BK112.out 3; have hfz10_4 := blk_frozen BK112.out 4; have hfz10_5 := blk_frozen BK112.out 5; have hfz10_6 := blk_frozen BK112.out 6; have hfz10_7 := blk_frozen BK112.out 7; have hfz10_8 := blk_frozen BK112.out 8; have hfz10_9 := blk_frozen BK112.out 9))
  go_loopg [28] k (fun kq v28 w' => ∃ (x28_1 : Int) (x115008_1 : List (S60)) (u115008 : Value), v28 = .int .i64 x28_1 ∧ Aside0 (laws_candidate.l0 kq l0_8 (l0_8.length : Int) x28_1 a0_0 a0_1 a0_2 a0_3 a0_4 a0_5 a0_6 a0_7 l0_8 l0_9 a0_0 a0_1 a0_2 a0_3 a0_4 a0_5 a0_6 a0_7 x115008_1 = some (r1, r2, r3, r4, r5, r6, r7, r8, r9, r10)) ∧ Aside0 (kq ≤ k) ∧ Aside0 (Kd.R k60 60 w' w.heap.size (fun _ => True) u115008 x115008_1) ∧ Aside0 (w'.heap[gb112]? = some (.cells #[.int .i64 a0_0, .int .i64 a0_1, .int .i64 a0_2, .string a0_3, .int .i64 a0_4, .int .u32 a0_5, .string a0_6, .int .i64 a0_7, (.slice A0_8 l0_8.length c0_8), (.slice A0_9 l0_9.length c0_9)] 26 (0, 0))) ∧ Aside0 (w'.heap[gb113]? = some (.cells #[.int .i64 0, .int .i64 0, .int .i64 0, .string (⟨#[]⟩ : ByteArray), .int .i64 0, .int .u32 0, .string (⟨#[]⟩ : ByteArray), .int .i64 0, (.slice none 0 0), (.slice none 0 0)] 31 (0, 0))) ∧ Aside0 (w'.heap[gb114]? = some (.cells #[.int .i64 a0_0, .int .i64 a0_1, .int .i64 a0_2, .string a0_3, .int .i64 a0_4, .int .u32 a0_5, .string a0_6, .int .i64 a0_7, u115008, (.slice none 0 0)] 31 (0, 0))) ∧ Aside0 (Below w.heap.size w w'))
  case atStart => exact ⟨(0), (([] : List (S60))), (.slice none 0 0), (by first | rfl | (simp; done) | (simp [*]; done)), H', ⟨Nat.le_refl _⟩, ⟨by first | exact Kd.R_nil _ _ _ _ _ | exact Kd.N_nil _ _ _ _ _ | exact Kd.V_nil _ _ _ _ _ | exact Kd.Q_nil _ _ _ _ _ | exact Kd.S_nil _ _ _ _ _⟩, ⟨by (with_reducible repeat (first | refine blk_drewN ?_ _ | refine blk_drew ?_ | refine blk_alloc ?_ _)); refine blk_far ?_ NB112_114.out _; (with_reducible repeat (first | refine blk_drewN ?_ _ | refine blk_drew ?_ | refine blk_alloc ?_ _)); refine blk_far ?_ NB112_114.out _; (with_reducible repeat (first | refine blk_drewN ?_ _ | refine blk_drew ?_ | refine blk_alloc ?_ _)); refine blk_far ?_ NB112_114.out _; (with_reducible repeat (first | refine blk_drewN ?_ _ | refine blk_drew ?_ | refine blk_alloc ?_ _)); refine blk_far ?_ NB112_114.out _; (with_reducible repeat (first | refine blk_drewN ?_ _ | refine blk_drew ?_ | refine blk_alloc ?_ _)); refine blk_far ?_ NB112_114.out _; (with_reducible repeat (first | refine blk_drewN ?_ _ | refine blk_drew ?_ | refine blk_alloc ?_ _)); refine blk_far ?_ NB112_114.out _; (with_reducible repeat (first | refine blk_drewN ?_ _ | refine blk_drew ?_ | refine blk_alloc ?_ _)); refine blk_far ?_ NB112_114.out _; (with_reducible repeat (first | refine blk_drewN ?_ _ | refine blk_drew ?_ | refine blk_alloc ?_ _)); refine blk_far ?_ NB112_114.out _; (with_reducible repeat (first | refine blk_drewN ?_ _ | refine blk_drew ?_ | refine blk_alloc ?_ _)); refine blk_far ?_ NB112_114.out _; (with_reducible repeat (first | refine blk_drewN ?_ _ | refine blk_drew ?_ | refine blk_alloc ?_ _)); refine blk_far ?_ NB112_114.out _; (with_reducible repeat (first | refine blk_drewN ?_ _ | refine blk_drew ?_ | refine blk_alloc ?_ _)); exact BK112.out⟩, ⟨by (with_reducible repeat (first | refine blk_drewN ?_ _ | refine blk_drew ?_ | refine blk_alloc ?_ _)); refine blk_far ?_ NB113_114.out _; (with_reducible repeat (first | refine blk_drewN ?_ _ | refine blk_drew ?_ | refine blk_alloc ?_ _)); refine blk_far ?_ NB113_114.out _; (with_reducible repeat (first | refine blk_drewN ?_ _ | refine blk_drew ?_ | refine blk_alloc ?_ _)); refine blk_far ?_ NB113_114.out _; (with_reducible repeat (first | refine blk_drewN ?_ _ | refine blk_drew ?_ | refine blk_alloc ?_ _)); refine blk_far ?_ NB113_114.out _; (with_reducible repeat (first | refine blk_drewN ?_ _ | refine blk_drew ?_ | refine blk_alloc ?_ _)); refine blk_far ?_ NB113_114.out _; (with_reducible repeat (first | refine blk_drewN ?_ _ | refine blk_drew ?_ | refine blk_alloc ?_ _)); refine blk_far ?_ NB113_114.out _; (with_reducible repeat (first | refine blk_drewN ?_ _ | refine blk_drew ?_ | refine blk_alloc ?_ _)); refine blk_far ?_ NB113_114.out _; (with_reducible repeat (first | refine blk_drewN ?_ _ | refine blk_drew ?_ | refine blk_alloc ?_ _)); refine blk_far ?_ NB113_114.out _; (with_reducible repeat (first | refine blk_drewN ?_ _ | refine blk_drew ?_ | refine blk_alloc ?_ _)); refine blk_far ?_ NB113_114.out _; (with_reducible repeat (first | refine blk_drewN ?_ _ | refine blk_drew ?_ | refine blk_alloc ?_ _)); refine blk_far ?_ NB113_114.out _; (with_reducible repeat (first | refine blk_drewN ?_ _ | refine blk_drew ?_ | refine blk_alloc ?_ _)); exact BK113.out⟩, ⟨by (with_reducible repeat (first | refine blk_drewN ?_ _ | refine blk_drew ?_ | refine blk_alloc ?_ _)); refine blk_put (cs := #[.int .i64 a0_0, .int .i64 a0_1, .int .i64 a0_2, .string a0_3, .int .i64 a0_4, .int .u32 a0_5, .string a0_6, .int .i64 a0_7, .slice none 0 0, .slice none 0 0]) ?_ 9 _ rfl; (with_reducible repeat (first | refine blk_drewN ?_ _ | refine blk_drew ?_ | refine blk_alloc ?_ _)); refine blk_put (cs := #[.int .i64 a0_0, .int .i64 a0_1, .int .i64 a0_2, .string a0_3, .int .i64 a0_4, .int .u32 a0_5, .string a0_6, .int .i64 a0_7, .slice none 0 0, .slice none 0 0]) ?_ 8 _ rfl; (with_reducible repeat (first | refine blk_drewN ?_ _ | refine blk_drew ?_ | refine blk_alloc ?_ _)); refine blk_put (cs := #[.int .i64 a0_0, .int .i64 a0_1, .int .i64 a0_2, .string a0_3, .int .i64 a0_4, .int .u32 a0_5, .string a0_6, .int .i64 0, .slice none 0 0, .slice none 0 0]) ?_ 7 _ rfl; (with_reducible repeat (first | refine blk_drewN ?_ _ | refine blk_drew ?_ | refine blk_alloc ?_ _)); refine blk_put (cs := #[.int .i64 a0_0, .int .i64 a0_1, .int .i64 a0_2, .string a0_3, .int .i64 a0_4, .int .u32 a0_5, .string (⟨#[]⟩ : ByteArray), .int .i64 0, .slice none 0 0, .slice none 0 0]) ?_ 6 _ rfl; (with_reducible repeat (first | refine blk_drewN ?_ _ | refine blk_drew ?_ | refine blk_alloc ?_ _)); refine blk_put (cs := #[.int .i64 a0_0, .int .i64 a0_1, .int .i64 a0_2, .string a0_3, .int .i64 a0_4, .int .u32 0, .string (⟨#[]⟩ : ByteArray), .int .i64 0, .slice none 0 0, .slice none 0 0]) ?_ 5 _ rfl; (with_reducible repeat (first | refine blk_drewN ?_ _ | refine blk_drew ?_ | refine blk_alloc ?_ _)); refine blk_put (cs := #[.int .i64 a0_0, .int .i64 a0_1, .int .i64 a0_2, .string a0_3, .int .i64 0, .int .u32 0, .string (⟨#[]⟩ : ByteArray), .int .i64 0, .slice none 0 0, .slice none 0 0]) ?_ 4 _ rfl; (with_reducible repeat (first | refine blk_drewN ?_ _ | refine blk_drew ?_ | refine blk_alloc ?_ _)); refine blk_put (cs := #[.int .i64 a0_0, .int .i64 a0_1, .int .i64 a0_2, .string (⟨#[]⟩ : ByteArray), .int .i64 0, .int .u32 0, .string (⟨#[]⟩ : ByteArray), .int .i64 0, .slice none 0 0, .slice none 0 0]) ?_ 3 _ rfl; (with_reducible repeat (first | refine blk_drewN ?_ _ | refine blk_drew ?_ | refine blk_alloc ?_ _)); refine blk_put (cs := #[.int .i64 a0_0, .int .i64 a0_1, .int .i64 0, .string (⟨#[]⟩ : ByteArray), .int .i64 0, .int .u32 0, .string (⟨#[]⟩ : ByteArray), .int .i64 0, .slice none 0 0, .slice none 0 0]) ?_ 2 _ rfl; (with_reducible repeat (first | refine blk_drewN ?_ _ | refine blk_drew ?_ | refine blk_alloc ?_ _)); refine blk_put (cs := #[.int .i64 a0_0, .int .i64 0, .int .i64 0, .string (⟨#[]⟩ : ByteArray), .int .i64 0, .int .u32 0, .string (⟨#[]⟩ : ByteArray), .int .i64 0, .slice none 0 0, .slice none 0 0]) ?_ 1 _ rfl; (with_reducible repeat (first | refine blk_drewN ?_ _ | refine blk_drew ?_ | refine blk_alloc ?_ _)); refine blk_put (cs := #[.int .i64 0, .int .i64 0, .int .i64 0, .string (⟨#[]⟩ : ByteArray), .int .i64 0, .int .u32 0, .string (⟨#[]⟩ : ByteArray), .int .i64 0, .slice none 0 0, .slice none 0 0]) ?_ 0 _ rfl; (with_reducible repeat (first | refine blk_drewN ?_ _ | refine blk_drew ?_ | refine blk_alloc ?_ _)); exact BK114.out⟩, ⟨by repeat (first | (with_reducible first | exact HB.out | apply below_alloc | apply pw_below_drewN | apply below_drew1 | refine below_set ?_ GE112.out | refine below_set ?_ GE113.out | refine below_set ?_ GE114.out) | exact HB.out)⟩⟩
  case round =>
    clear H'
    try clear c1
    try clear p2
    try clear c4
    try clear c7
    try clear c8
    try clear hcz10_0
    try clear hcz10_1
    try clear hcz10_2
    try clear hcz10_3
    try clear hcz10_4
    try clear hcz10_5
    try clear hcz10_6
    try clear hcz10_7
    try clear hcz10_8
    try clear hcz10_9
    try clear hcz5_0
    try clear hcz5_1
    try clear hcz5_2
    try clear hcz5_3
    try clear hcz5_4
    try clear hcz5_5
    try clear hcz5_6
    try clear hcz5_7
    try clear hcz5_8
    try clear hcz5_9
    try clear hcz9_0
    try clear hcz9_1
    try clear hcz9_2
    try clear hcz9_3
    try clear hcz9_4
    try clear hcz9_5
    try clear hcz9_6
    try clear hcz9_7
    try clear hcz9_8
    try clear hcz9_9
    try clear hfz10_0
    try clear hfz10_1
    try clear hfz10_2
    try clear hfz10_3
    try clear hfz10_4
    try clear hfz10_5
    try clear hfz10_6
    try clear hfz10_7
    try clear hfz10_8
    try clear hfz10_9
    try clear hfz5_0
    try clear hfz5_1
    try clear hfz5_2
    try clear hfz5_3
    try clear hfz5_4
    try clear hfz5_5
    try clear hfz5_6
    try clear hfz5_7
    try clear hfz5_8
    try clear hfz5_9
    try clear hfz9_0
    try clear hfz9_1
    try clear hfz9_2
    try clear hfz9_3
    try clear hfz9_4
    try clear hfz9_5
    try clear hfz9_6
    try clear hfz9_7
    try clear hfz9_8
    try clear hfz9_9
    obtain ⟨x28_1, x115008_1, u115008, rfl, HA, HK1, HO_115008, BK112, BK113, BK114, HB⟩ := hrel
    cases gk with
    | zero => exact absurd HA.out (by simp [laws_candidate.l0])
    | succ k1 =>
      have H := HA.out
      clear HA
      simp only [laws_candidate.l0] at H
      by_cases c11 : x28_1 < (l0_8.length : Int)
      · rw [if_pos c11] at H
        have c11b0 : decide (x28_1 < (l0_8.length : Int)) = true := decide_eq_true c11
        clear c11
        by_cases c12 : 0 ≤ x28_1
        · rw [if_pos c12] at H
          have c12b0 : decide (0 ≤ x28_1) = true := decide_eq_true c12
          clear c12
          by_cases c13 : x28_1 < (l0_8.length : Int)
          · rw [if_pos c13] at H
            have c13b0 : decide (x28_1 < (l0_8.length : Int)) = true := decide_eq_true c13
            clear c13
            by_cases c14 : x115008_1.length < 5864062014805
            · rw [if_pos c14] at H
              have LMc14 := Aside0.mk c14
              clear c14
              obtain ⟨y117, hy117⟩ : ∃ y_ : List (S60), y_ = (x115008_1 ++ [(⟨(rd_T59 l0_8 x28_1).f0, (rd_T59 l0_8 x28_1).f1⟩ : S60)]) := ⟨_, rfl⟩
              replace H : (laws_candidate.l0 k1 l0_8 (l0_8.length : Int) (wrap64 (x28_1 + 1)) a0_0 a0_1 a0_2 a0_3 a0_4 a0_5 a0_6 a0_7 l0_8 l0_9 a0_0 a0_1 a0_2 a0_3 a0_4 a0_5 a0_6 a0_7 y117) = some (r1, r2, r3, r4, r5, r6, r7, r8, r9, r10) := by first | (rw [hy117]; with_reducible exact H) | (have H2_ := (Option.bind_some _ _).symm.trans H; rw [hy117]; with_reducible exact H2_) | (have H2_ := (Option.bind_some _ _).symm.trans H; with_reducible exact H2_) | with_reducible exact H | (rw [hy117]; exact H) | exact H
              have Ny117 := Aside0.mk hy117
              clear hy117
              have H' := Aside0.mk H
              clear H
              have p115 : 0 ≤ (x28_1 : Int) := of_decide_eq_true (by first | (with_reducible assumption) | assumption)
              have q115 : x28_1 < (l0_8.length : Int) := of_decide_eq_true (by first | (with_reducible assumption) | assumption)
              obtain ⟨ad115, e115, hx115_0, hx115_1⟩ := at_T59 HR0_8.out x28_1 p115 q115
              cases e115
              replace hx115_0 := (HB.out.cell (World.block_lt_of_cell? w _ hx115_0)).trans hx115_0
              replace hx115_1 := (HB.out.cell (World.block_lt_of_cell? w _ hx115_1)).trans hx115_1
              replace p115 := eq_true p115
              replace q115 := eq_true q115
              go_wp2_with (first | ((with_reducible refine gate_dst (N := 5) rfl ?_); refine box_event ?hg (N := 5) ?hd (cs := #[.string (⟨#[]⟩ : ByteArray), .int .i64 0]) (t := 59) ?hr ?_; (case hd => rfl); (case hg => rfl); (case hr => first | (go_simp; done) | (go_simp; rfl)); intro gb116 hg w15 hbox hb; have n0_ := Aside0.mk (Kd.R_below (by (with_reducible repeat (first | apply Kd.R_alloc | apply Kd.R_drewN | apply Kd.R_drew)); exact HO_115008.out) hb); have n1_ := Aside0.mk (blk_below (g := gb112) (o := .cells #[.int .i64 a0_0, .int .i64 a0_1, .int .i64 a0_2, .string a0_3, .int .i64 a0_4, .int .u32 a0_5, .string a0_6, .int .i64 a0_7, .slice (some ad115) l0_8.length c0_8, .slice A0_9 l0_9.length c0_9] 26 (0, 0)) (by (with_reducible repeat (first | refine blk_drewN ?_ _ | refine blk_drew ?_ | refine blk_alloc ?_ _)); exact BK112.out) hb); have n2_ := Aside0.mk (blk_below (g := gb113) (o := .cells #[.int .i64 0, .int .i64 0, .int .i64 0, .string (⟨#[]⟩ : ByteArray), .int .i64 0, .int .u32 0, .string (⟨#[]⟩ : ByteArray), .int .i64 0, .slice none 0 0, .slice none 0 0] 31 (0, 0)) (by (with_reducible repeat (first | refine blk_drewN ?_ _ | refine blk_drew ?_ | refine blk_alloc ?_ _)); exact BK113.out) hb); have n3_ := Aside0.mk (blk_below (g := gb114) (o := .cells #[.int .i64 a0_0, .int .i64 a0_1, .int .i64 a0_2, .string a0_3, .int .i64 a0_4, .int .u32 a0_5, .string a0_6, .int .i64 a0_7, u115008, .slice none 0 0] 31 (0, 0)) (by (with_reducible repeat (first | refine blk_drewN ?_ _ | refine blk_drew ?_ | refine blk_alloc ?_ _)); exact BK114.out) hb); have n4_ := Aside0.mk (below_step (by repeat (first | (with_reducible first | exact HB.out | apply below_alloc | apply pw_below_drewN | apply below_drew1 | refine below_set ?_ GE112.out | refine below_set ?_ GE113.out | refine below_set ?_ GE114.out) | exact HB.out)) hb); have n5_ := Aside0.mk (hbox); have n6_ := Aside0.mk ((by rw [hg]; exact (below_size (by repeat (first | (with_reducible first | exact HB.out | apply below_alloc | apply pw_below_drewN | apply below_drew1 | refine below_set ?_ GE112.out | refine below_set ?_ GE113.out | refine below_set ?_ GE114.out) | exact HB.out))) : w.heap.size ≤ gb116)); have n7_ := Aside0.mk ((by rw [hg]; exact (below_size (by repeat (first | (with_reducible first | exact HB.out | apply below_alloc | apply pw_below_drewN | apply below_drew1 | refine below_set ?_ GE112.out | refine below_set ?_ GE113.out | refine below_set ?_ GE114.out) | exact HB.out))) : w.heap.size ≤ gb116)); have n8_ := Aside0.mk ((by rw [hg]; exact Nat.ne_of_lt (blk_lt (g := gb112) (o := .cells #[.int .i64 a0_0, .int .i64 a0_1, .int .i64 a0_2, .string a0_3, .int .i64 a0_4, .int .u32 a0_5, .string a0_6, .int .i64 a0_7, .slice (some ad115) l0_8.length c0_8, .slice A0_9 l0_9.length c0_9] 26 (0, 0)) (by (with_reducible repeat (first | refine blk_drewN ?_ _ | refine blk_drew ?_ | refine blk_alloc ?_ _)); exact BK112.out)) : gb112 ≠ gb116)); have n9_ := Aside0.mk ((by rw [hg]; exact Nat.ne_of_gt (blk_lt (g := gb112) (o := .cells #[.int .i64 a0_0, .int .i64 a0_1, .int .i64 a0_2, .string a0_3, .int .i64 a0_4, .int .u32 a0_5, .string a0_6, .int .i64 a0_7, .slice (some ad115) l0_8.length c0_8, .slice A0_9 l0_9.length c0_9] 26 (0, 0)) (by (with_reducible repeat (first | refine blk_drewN ?_ _ | refine blk_drew ?_ | refine blk_alloc ?_ _)); exact BK112.out)) : gb116 ≠ gb112)); have n10_ := Aside0.mk ((by rw [hg]; exact Nat.ne_of_lt (blk_lt (g := gb113) (o := .cells #[.int .i64 0, .int .i64 0, .int .i64 0, .string (⟨#[]⟩ : ByteArray), .int .i64 0, .int .u32 0, .string (⟨#[]⟩ : ByteArray), .int .i64 0, .slice none 0 0, .slice none 0 0] 31 (0, 0)) (by (with_reducible repeat (first | refine blk_drewN ?_ _ | refine blk_drew ?_ | refine blk_alloc ?_ _)); exact BK113.out)) : gb113 ≠ gb116)); have n11_ := Aside0.mk ((by rw [hg]; exact Nat.ne_of_gt (blk_lt (g := gb113) (o := .cells #[.int .i64 0, .int .i64 0, .int .i64 0, .string (⟨#[]⟩ : ByteArray), .int .i64 0, .int .u32 0, .string (⟨#[]⟩ : ByteArray), .int .i64 0, .slice none 0 0, .slice none 0 0] 31 (0, 0)) (by (with_reducible repeat (first | refine blk_drewN ?_ _ | refine blk_drew ?_ | refine blk_alloc ?_ _)); exact BK113.out)) : gb116 ≠ gb113)); have n12_ := Aside0.mk ((by rw [hg]; exact Nat.ne_of_lt (blk_lt (g := gb114) (o := .cells #[.int .i64 a0_0, .int .i64 a0_1, .int .i64 a0_2, .string a0_3, .int .i64 a0_4, .int .u32 a0_5, .string a0_6, .int .i64 a0_7, u115008, .slice none 0 0] 31 (0, 0)) (by (with_reducible repeat (first | refine blk_drewN ?_ _ | refine blk_drew ?_ | refine blk_alloc ?_ _)); exact BK114.out)) : gb114 ≠ gb116)); have n13_ := Aside0.mk ((by rw [hg]; exact Nat.ne_of_gt (blk_lt (g := gb114) (o := .cells #[.int .i64 a0_0, .int .i64 a0_1, .int .i64 a0_2, .string a0_3, .int .i64 a0_4, .int .u32 a0_5, .string a0_6, .int .i64 a0_7, u115008, .slice none 0 0] 31 (0, 0)) (by (with_reducible repeat (first | refine blk_drewN ?_ _ | refine blk_drew ?_ | refine blk_alloc ?_ _)); exact BK114.out)) : gb116 ≠ gb114)); clear HO_115008; clear BK112; clear BK113; clear BK114; clear HB; have HO_115008 := n0_; have BK112 := n1_; have BK113 := n2_; have BK114 := n3_; have HB := n4_; have BK116 := n5_; have GW116 := n6_; have GE116 := n7_; have NB112_116 := n8_; have NB116_112 := n9_; have NB113_116 := n10_; have NB116_113 := n11_; have NB114_116 := n12_; have NB116_114 := n13_; clear n0_ n1_ n2_ n3_ n4_ n5_ n6_ n7_ n8_ n9_ n10_ n11_ n12_ n13_; clear hb hbox hg; have hnb16 := NB116_112.out; have hnc16 := NB112_116.out; have hnb17 := NB116_113.out; have hnc17 := NB113_116.out; have hnb18 := NB116_114.out; have hnc18 := NB114_116.out; have hcz19_0 : w15.cell? ⟨gb116, 0, none⟩ = some (.string (⟨#[]⟩ : ByteArray)) := (blk_cell BK116.out 0).trans rfl; have hcz19_1 : w15.cell? ⟨gb116, 1, none⟩ = some (.int .i64 0) := (blk_cell BK116.out 1).trans rfl; have hfz19_0 := blk_frozen BK116.out 0; have hfz19_1 := blk_frozen BK116.out 1; have hnb20 := NB114_112.out; have hnc20 := NB112_114.out; have hnb21 := NB114_113.out; have hnc21 := NB113_114.out; have hcz22_0 : w15.cell? ⟨gb114, 0, none⟩ = some (.int .i64 a0_0) := (blk_cell BK114.out 0).trans rfl; have hcz22_1 : w15.cell? ⟨gb114, 1, none⟩ = some (.int .i64 a0_1) := (blk_cell BK114.out 1).trans rfl; have hcz22_2 : w15.cell? ⟨gb114, 2, none⟩ = some (.int .i64 a0_2) := (blk_cell BK114.out 2).trans rfl; have hcz22_3 : w15.cell? ⟨gb114, 3, none⟩ = some (.string a0_3) := (blk_cell BK114.out 3).trans rfl; have hcz22_4 : w15.cell? ⟨gb114, 4, none⟩ = some (.int .i64 a0_4) := (blk_cell BK114.out 4).trans rfl; have hcz22_5 : w15.cell? ⟨gb114, 5, none⟩ = some (.int .u32 a0_5) := (blk_cell BK114.out 5).trans rfl; have hcz22_6 : w15.cell? ⟨gb114, 6, none⟩ = some (.string a0_6) := (blk_cell BK114.out 6).trans rfl; have hcz22_7 : w15.cell? ⟨gb114, 7, none⟩ = some (.int .i64 a0_7) := (blk_cell BK114.out 7).trans rfl; have hcz22_8 : w15.cell? ⟨gb114, 8, none⟩ = some (u115008) := (blk_cell BK114.out 8).trans rfl; have hcz22_9 : w15.cell? ⟨gb114, 9, none⟩ = some (.slice none 0 0) := (blk_cell BK114.out 9).trans rfl; have hfz22_0 := blk_frozen BK114.out 0; have hfz22_1 := blk_frozen BK114.out 1; have hfz22_2 := blk_frozen BK114.out 2; have hfz22_3 := blk_frozen BK114.out 3; have hfz22_4 := blk_frozen BK114.out 4; have hfz22_5 := blk_frozen BK114.out 5; have hfz22_6 := blk_frozen BK114.out 6; have hfz22_7 := blk_frozen BK114.out 7; have hfz22_8 := blk_frozen BK114.out 8; have hfz22_9 := blk_frozen BK114.out 9) | ((with_reducible refine gate_builtin (b := .append) (xs := #[.tmp 33, .tmp 39]) rfl ?_); at_builtin; refine Kd.R_append k60 (w0 := w) w.heap.size rfl (.tmp 33) (.tmp 39) 28 60 (.agg #[(.string ⟨#[]⟩), (.int .i64 0)]) 24 rfl Tryz.underlying28 info60 rfl (by decide) (by omega) u115008 x115008_1 (⟨(rd_T59 l0_8 x28_1).f0, (rd_T59 l0_8 x28_1).f1⟩ : S60) [.string ((rd_T59 l0_8 x28_1).f0), .int .i64 ((rd_T59 l0_8 x28_1).f1)] (fun _ => True) (fun _ => False) rfl (by first | (go_simp; done) | (go_simp; rfl)) ?aP (fun _ hk => hk.elim) ?aF ?aO ?aB ?aS ?aL ?_; (case aP => exact k60_mkM _ _ _ (⟨(rd_T59 l0_8 x28_1).f0, (rd_T59 l0_8 x28_1).f1⟩ : S60)); (case aB => exact (by repeat (first | (with_reducible first | exact HB.out | apply below_alloc | apply pw_below_drewN | apply below_drew1 | refine below_set ?_ GE112.out | refine below_set ?_ GE113.out | refine below_set ?_ GE114.out | refine below_set ?_ GE116.out) | exact HB.out))); (case aF => exact (fun _ _ => trivial)); (case aO => exact (by (with_reducible repeat (first | apply Kd.R_alloc | apply Kd.R_drewN | apply Kd.R_drew)); exact Kd.R_mono (Kd.R_far (p := ⟨gb116, 1, none⟩) (Kd.R_far (p := ⟨gb116, 0, none⟩) (Kd.R_types HO_115008.out BK116.out (by decide)) (fun _ hk => hk.2) (.string ((rd_T59 l0_8 x28_1).f0))) (fun _ hk => hk.2) (.int .i64 ((rd_T59 l0_8 x28_1).f1))) (fun _ hk => trivial))); (case aS => exact (below_size (by repeat (first | (with_reducible first | exact HB.out | apply below_alloc | apply pw_below_drewN | apply below_drew1 | refine below_set ?_ GE112.out | refine below_set ?_ GE113.out | refine below_set ?_ GE114.out | refine below_set ?_ GE116.out) | exact HB.out)))); (case aL => have := LMc14.out; omega); intro v118 w23 ho hb hg hat; rw [← Ny117.out] at ho; have n0_ := Aside0.mk (blk_grown (g := gb112) (o := .cells #[.int .i64 a0_0, .int .i64 a0_1, .int .i64 a0_2, .string a0_3, .int .i64 a0_4, .int .u32 a0_5, .string a0_6, .int .i64 a0_7, .slice (some ad115) l0_8.length c0_8, .slice A0_9 l0_9.length c0_9] 26 (0, 0)) (by (with_reducible repeat (first | refine blk_drewN ?_ _ | refine blk_drew ?_ | refine blk_alloc ?_ _)); refine blk_far ?_ NB112_116.out _; (with_reducible repeat (first | refine blk_drewN ?_ _ | refine blk_drew ?_ | refine blk_alloc ?_ _)); refine blk_far ?_ NB112_116.out _; (with_reducible repeat (first | refine blk_drewN ?_ _ | refine blk_drew ?_ | refine blk_alloc ?_ _)); exact BK112.out) hg (Kd.R_ne HO_115008.out BK112.out (by decide))); have n1_ := Aside0.mk (blk_grown (g := gb113) (o := .cells #[.int .i64 0, .int .i64 0, .int .i64 0, .string (⟨#[]⟩ : ByteArray), .int .i64 0, .int .u32 0, .string (⟨#[]⟩ : ByteArray), .int .i64 0, .slice none 0 0, .slice none 0 0] 31 (0, 0)) (by (with_reducible repeat (first | refine blk_drewN ?_ _ | refine blk_drew ?_ | refine blk_alloc ?_ _)); refine blk_far ?_ NB113_116.out _; (with_reducible repeat (first | refine blk_drewN ?_ _ | refine blk_drew ?_ | refine blk_alloc ?_ _)); refine blk_far ?_ NB113_116.out _; (with_reducible repeat (first | refine blk_drewN ?_ _ | refine blk_drew ?_ | refine blk_alloc ?_ _)); exact BK113.out) hg (Kd.R_ne HO_115008.out BK113.out (by decide))); have n2_ := Aside0.mk (blk_grown (g := gb114) (o := .cells #[.int .i64 a0_0, .int .i64 a0_1, .int .i64 a0_2, .string a0_3, .int .i64 a0_4, .int .u32 a0_5, .string a0_6, .int .i64 a0_7, u115008, .slice none 0 0] 31 (0, 0)) (by (with_reducible repeat (first | refine blk_drewN ?_ _ | refine blk_drew ?_ | refine blk_alloc ?_ _)); refine blk_far ?_ NB114_116.out _; (with_reducible repeat (first | refine blk_drewN ?_ _ | refine blk_drew ?_ | refine blk_alloc ?_ _)); refine blk_far ?_ NB114_116.out _; (with_reducible repeat (first | refine blk_drewN ?_ _ | refine blk_drew ?_ | refine blk_alloc ?_ _)); exact BK114.out) hg (Kd.R_ne HO_115008.out BK114.out (by decide))); have n3_ := Aside0.mk (blk_grown (g := gb116) (o := .cells #[.string ((rd_T59 l0_8 x28_1).f0), .int .i64 ((rd_T59 l0_8 x28_1).f1)] 59 (0, 0)) (by (with_reducible repeat (first | refine blk_drewN ?_ _ | refine blk_drew ?_ | refine blk_alloc ?_ _)); refine blk_put (cs := #[.string ((rd_T59 l0_8 x28_1).f0), .int .i64 0]) ?_ 1 _ rfl; (with_reducible repeat (first | refine blk_drewN ?_ _ | refine blk_drew ?_ | refine blk_alloc ?_ _)); refine blk_put (cs := #[.string (⟨#[]⟩ : ByteArray), .int .i64 0]) ?_ 0 _ rfl; (with_reducible repeat (first | refine blk_drewN ?_ _ | refine blk_drew ?_ | refine blk_alloc ?_ _)); exact BK116.out) hg (Kd.R_ne HO_115008.out BK116.out (by decide))); have n4_ := Aside0.mk (hb); have n5_ := Aside0.mk (ho); clear BK112; clear BK113; clear BK114; clear BK116; clear HB; clear HO_115008; have BK112 := n0_; have BK113 := n1_; have BK114 := n2_; have BK116 := n3_; have HB := n4_; have HO119 := n5_; clear n0_ n1_ n2_ n3_ n4_ n5_; clear ho hb hg hat; obtain ⟨Ao24, co24, eo24⟩ := Kd.R_slice HO119.out; subst eo24; have hcz25_0 : w23.cell? ⟨gb114, 0, none⟩ = some (.int .i64 a0_0) := (blk_cell BK114.out 0).trans rfl; have hcz25_1 : w23.cell? ⟨gb114, 1, none⟩ = some (.int .i64 a0_1) := (blk_cell BK114.out 1).trans rfl; have hcz25_2 : w23.cell? ⟨gb114, 2, none⟩ = some (.int .i64 a0_2) := (blk_cell BK114.out 2).trans rfl; have hcz25_3 : w23.cell? ⟨gb114, 3, none⟩ = some (.string a0_3) := (blk_cell BK114.out 3).trans rfl; have hcz25_4 : w23.cell? ⟨gb114, 4, none⟩ = some (.int .i64 a0_4) := (blk_cell BK114.out 4).trans rfl; have hcz25_5 : w23.cell? ⟨gb114, 5, none⟩ = some (.int .u32 a0_5) := (blk_cell BK114.out 5).trans rfl; have hcz25_6 : w23.cell? ⟨gb114, 6, none⟩ = some (.string a0_6) := (blk_cell BK114.out 6).trans rfl; have hcz25_7 : w23.cell? ⟨gb114, 7, none⟩ = some (.int .i64 a0_7) := (blk_cell BK114.out 7).trans rfl; have hcz25_8 : w23.cell? ⟨gb114, 8, none⟩ = some (u115008) := (blk_cell BK114.out 8).trans rfl; have hcz25_9 : w23.cell? ⟨gb114, 9, none⟩ = some (.slice none 0 0) := (blk_cell BK114.out 9).trans rfl; have hfz25_0 := blk_frozen BK114.out 0; have hfz25_1 := blk_frozen BK114.out 1; have hfz25_2 := blk_frozen BK114.out 2; have hfz25_3 := blk_frozen BK114.out 3; have hfz25_4 := blk_frozen BK114.out 4; have hfz25_5 := blk_frozen BK114.out 5; have hfz25_6 := blk_frozen BK114.out 6; have hfz25_7 := blk_frozen BK114.out 7; have hfz25_8 := blk_frozen BK114.out 8; have hfz25_9 := blk_frozen BK114.out 9))
              go_roundg k1
              case measure => have := HK1.out; omega
              case rel => exact ⟨(wrap64 (x28_1 + 1)), (y117), (.slice Ao24 y117.length co24), (by first | rfl | (simp; done) | (simp [*]; done)), H', ⟨by have := HK1.out; omega⟩, ⟨by (with_reducible repeat (first | apply Kd.R_alloc | apply Kd.R_drewN | apply Kd.R_drew)); exact Kd.R_mono (Kd.R_far (p := ⟨gb114, 8, none⟩) (Kd.R_types HO119.out BK114.out (by decide)) (fun _ hk => hk.2) (.slice Ao24 y117.length co24)) (fun _ hk => trivial)⟩, ⟨by (with_reducible repeat (first | refine blk_drewN ?_ _ | refine blk_drew ?_ | refine blk_alloc ?_ _)); refine blk_far ?_ NB112_114.out _; (with_reducible repeat (first | refine blk_drewN ?_ _ | refine blk_drew ?_ | refine blk_alloc ?_ _)); exact BK112.out⟩, ⟨by (with_reducible repeat (first | refine blk_drewN ?_ _ | refine blk_drew ?_ | refine blk_alloc ?_ _)); refine blk_far ?_ NB113_114.out _; (with_reducible repeat (first | refine blk_drewN ?_ _ | refine blk_drew ?_ | refine blk_alloc ?_ _)); exact BK113.out⟩, ⟨by (with_reducible repeat (first | refine blk_drewN ?_ _ | refine blk_drew ?_ | refine blk_alloc ?_ _)); refine blk_put (cs := #[.int .i64 a0_0, .int .i64 a0_1, .int .i64 a0_2, .string a0_3, .int .i64 a0_4, .int .u32 a0_5, .string a0_6, .int .i64 a0_7, u115008, .slice none 0 0]) ?_ 8 _ rfl; (with_reducible repeat (first | refine blk_drewN ?_ _ | refine blk_drew ?_ | refine blk_alloc ?_ _)); exact BK114.out⟩, ⟨by repeat (first | (with_reducible first | exact HB.out | apply below_alloc | apply pw_below_drewN | apply below_drew1 | refine below_set ?_ GE112.out | refine below_set ?_ GE113.out | refine below_set ?_ GE114.out | refine below_set ?_ GE116.out) | exact HB.out)⟩⟩
            · rw [if_neg c14] at H
              exact absurd H (by simp)
          · rw [if_neg c13] at H
            exact absurd H (by simp)
        · rw [if_neg c12] at H
          exact absurd H (by simp)
      · rw [if_neg c11] at H
        have c11b0 : decide (x28_1 < (l0_8.length : Int)) = false := decide_eq_false c11
        clear c11
        have H' := Aside0.mk H
        clear H
        have hnb26 := NB112_113.out
        have hnc26 := NB113_112.out
        have hnb27 := NB112_114.out
        have hnc27 := NB114_112.out
        have hcz28_0 : wr.cell? ⟨gb112, 0, none⟩ = some (.int .i64 a0_0) := (blk_cell BK112.out 0).trans rfl
        have hcz28_1 : wr.cell? ⟨gb112, 1, none⟩ = some (.int .i64 a0_1) := (blk_cell BK112.out 1).trans rfl
        have hcz28_2 : wr.cell? ⟨gb112, 2, none⟩ = some (.int .i64 a0_2) := (blk_cell BK112.out 2).trans rfl
        have hcz28_3 : wr.cell? ⟨gb112, 3, none⟩ = some (.string a0_3) := (blk_cell BK112.out 3).trans rfl
        have hcz28_4 : wr.cell? ⟨gb112, 4, none⟩ = some (.int .i64 a0_4) := (blk_cell BK112.out 4).trans rfl
        have hcz28_5 : wr.cell? ⟨gb112, 5, none⟩ = some (.int .u32 a0_5) := (blk_cell BK112.out 5).trans rfl
        have hcz28_6 : wr.cell? ⟨gb112, 6, none⟩ = some (.string a0_6) := (blk_cell BK112.out 6).trans rfl
        have hcz28_7 : wr.cell? ⟨gb112, 7, none⟩ = some (.int .i64 a0_7) := (blk_cell BK112.out 7).trans rfl
        have hcz28_8 : wr.cell? ⟨gb112, 8, none⟩ = some (.slice A0_8 l0_8.length c0_8) := (blk_cell BK112.out 8).trans rfl
        have hcz28_9 : wr.cell? ⟨gb112, 9, none⟩ = some (.slice A0_9 l0_9.length c0_9) := (blk_cell BK112.out 9).trans rfl
        have hfz28_0 := blk_frozen BK112.out 0
        have hfz28_1 := blk_frozen BK112.out 1
        have hfz28_2 := blk_frozen BK112.out 2
        have hfz28_3 := blk_frozen BK112.out 3
        have hfz28_4 := blk_frozen BK112.out 4
        have hfz28_5 := blk_frozen BK112.out 5
        have hfz28_6 := blk_frozen BK112.out 6
        have hfz28_7 := blk_frozen BK112.out 7
        have hfz28_8 := blk_frozen BK112.out 8
        have hfz28_9 := blk_frozen BK112.out 9
        go_wp2
        go_loopg [46] k1 (fun kq v46 w' => ∃ (x46_2 : Int) (x115009_2 : List (S63)) (u115009 : Value), v46 = .int .i64 x46_2 ∧ Aside0 (laws_candidate.l1 kq l0_9 (l0_9.length : Int) x46_2 a0_0 a0_1 a0_2 a0_3 a0_4 a0_5 a0_6 a0_7 x115008_1 x115009_2 = some (r1, r2, r3, r4, r5, r6, r7, r8, r9, r10)) ∧ Aside0 (kq ≤ k1) ∧ Aside0 (Kd.R k60 60 w' w.heap.size (fun _ => True) u115008 x115008_1) ∧ Aside0 (Kd.R k63 63 w' w.heap.size (fun _ => True) u115009 x115009_2) ∧ Aside0 (w'.heap[gb112]? = some (.cells #[.int .i64 a0_0, .int .i64 a0_1, .int .i64 a0_2, .string a0_3, .int .i64 a0_4, .int .u32 a0_5, .string a0_6, .int .i64 a0_7, (.slice A0_8 l0_8.length c0_8), (.slice A0_9 l0_9.length c0_9)] 26 (0, 0))) ∧ Aside0 (w'.heap[gb113]? = some (.cells #[.int .i64 0, .int .i64 0, .int .i64 0, .string (⟨#[]⟩ : ByteArray), .int .i64 0, .int .u32 0, .string (⟨#[]⟩ : ByteArray), .int .i64 0, (.slice none 0 0), (.slice none 0 0)] 31 (0, 0))) ∧ Aside0 (w'.heap[gb114]? = some (.cells #[.int .i64 a0_0, .int .i64 a0_1, .int .i64 a0_2, .string a0_3, .int .i64 a0_4, .int .u32 a0_5, .string a0_6, .int .i64 a0_7, u115008, u115009] 31 (0, 0))) ∧ Aside0 (Below w.heap.size w w'))
        case atStart => exact ⟨(0), (([] : List (S63))), (.slice none 0 0), (by first | rfl | (simp; done) | (simp [*]; done)), H', ⟨Nat.le_refl _⟩, ⟨by (with_reducible repeat (first | apply Kd.R_alloc | apply Kd.R_drewN | apply Kd.R_drew)); exact HO_115008.out⟩, ⟨by first | exact Kd.R_nil _ _ _ _ _ | exact Kd.N_nil _ _ _ _ _ | exact Kd.V_nil _ _ _ _ _ | exact Kd.Q_nil _ _ _ _ _ | exact Kd.S_nil _ _ _ _ _⟩, ⟨by (with_reducible repeat (first | refine blk_drewN ?_ _ | refine blk_drew ?_ | refine blk_alloc ?_ _)); exact BK112.out⟩, ⟨by (with_reducible repeat (first | refine blk_drewN ?_ _ | refine blk_drew ?_ | refine blk_alloc ?_ _)); exact BK113.out⟩, ⟨by (with_reducible repeat (first | refine blk_drewN ?_ _ | refine blk_drew ?_ | refine blk_alloc ?_ _)); exact BK114.out⟩, ⟨by repeat (first | (with_reducible first | exact HB.out | apply below_alloc | apply pw_below_drewN | apply below_drew1 | refine below_set ?_ GE112.out | refine below_set ?_ GE113.out | refine below_set ?_ GE114.out) | exact HB.out)⟩⟩
        case round =>
          clear H'
          try clear c1
          try clear p1
          try clear q1
          try clear hx1
          try clear c2
          try clear p2
          try clear c4
          try clear p6
          try clear c7
          try clear c8
          try clear c11
          try clear c11b0
          try clear p11
          try clear q11
          try clear hx11
          try clear c12
          try clear c12b0
          try clear c13
          try clear c13b0
          try clear c14
          try clear c16
          try clear c17
          try clear c18
          try clear c20
          try clear c21
          try clear c26
          try clear c27
          try clear hcz10_0
          try clear hcz10_1
          try clear hcz10_2
          try clear hcz10_3
          try clear hcz10_4
          try clear hcz10_5
          try clear hcz10_6
          try clear hcz10_7
          try clear hcz10_8
          try clear hcz10_9
          try clear hcz19_0
          try clear hcz19_1
          try clear hcz22_0
          try clear hcz22_1
          try clear hcz22_2
          try clear hcz22_3
          try clear hcz22_4
          try clear hcz22_5
          try clear hcz22_6
          try clear hcz22_7
          try clear hcz22_8
          try clear hcz22_9
          try clear hcz25_0
          try clear hcz25_1
          try clear hcz25_2
          try clear hcz25_3
          try clear hcz25_4
          try clear hcz25_5
          try clear hcz25_6
          try clear hcz25_7
          try clear hcz25_8
          try clear hcz25_9
          try clear hcz28_0
          try clear hcz28_1
          try clear hcz28_2
          try clear hcz28_3
          try clear hcz28_4
          try clear hcz28_5
          try clear hcz28_6
          try clear hcz28_7
          try clear hcz28_8
          try clear hcz28_9
          try clear hcz5_0
          try clear hcz5_1
          try clear hcz5_2
          try clear hcz5_3
          try clear hcz5_4
          try clear hcz5_5
          try clear hcz5_6
          try clear hcz5_7
          try clear hcz5_8
          try clear hcz5_9
          try clear hcz9_0
          try clear hcz9_1
          try clear hcz9_2
          try clear hcz9_3
          try clear hcz9_4
          try clear hcz9_5
          try clear hcz9_6
          try clear hcz9_7
          try clear hcz9_8
          try clear hcz9_9
          try clear hfz10_0
          try clear hfz10_1
          try clear hfz10_2
          try clear hfz10_3
          try clear hfz10_4
          try clear hfz10_5
          try clear hfz10_6
          try clear hfz10_7
          try clear hfz10_8
          try clear hfz10_9
          try clear hfz19_0
          try clear hfz19_1
          try clear hfz22_0
          try clear hfz22_1
          try clear hfz22_2
          try clear hfz22_3
          try clear hfz22_4
          try clear hfz22_5
          try clear hfz22_6
          try clear hfz22_7
          try clear hfz22_8
          try clear hfz22_9
          try clear hfz25_0
          try clear hfz25_1
          try clear hfz25_2
          try clear hfz25_3
          try clear hfz25_4
          try clear hfz25_5
          try clear hfz25_6
          try clear hfz25_7
          try clear hfz25_8
          try clear hfz25_9
          try clear hfz28_0
          try clear hfz28_1
          try clear hfz28_2
          try clear hfz28_3
          try clear hfz28_4
          try clear hfz28_5
          try clear hfz28_6
          try clear hfz28_7
          try clear hfz28_8
          try clear hfz28_9
          try clear hfz5_0
          try clear hfz5_1
          try clear hfz5_2
          try clear hfz5_3
          try clear hfz5_4
          try clear hfz5_5
          try clear hfz5_6
          try clear hfz5_7
          try clear hfz5_8
          try clear hfz5_9
          try clear hfz9_0
          try clear hfz9_1
          try clear hfz9_2
          try clear hfz9_3
          try clear hfz9_4
          try clear hfz9_5
          try clear hfz9_6
          try clear hfz9_7
          try clear hfz9_8
          try clear hfz9_9
          try clear hx115_0
          try clear hx115_1
          try clear p115
          try clear p2
          try clear q115
          obtain ⟨x46_2, x115009_2, u115009, rfl, HA, HK2, HO_115008, HO_115009, BK112, BK113, BK114, HB⟩ := hrel
          cases gk with
          | zero => exact absurd HA.out (by simp [laws_candidate.l1])
          | succ k2 =>
            have H := HA.out
            clear HA
            simp only [laws_candidate.l1] at H
            by_cases c29 : x46_2 < (l0_9.length : Int)
            · rw [if_pos c29] at H
              have c29b0 : decide (x46_2 < (l0_9.length : Int)) = true := decide_eq_true c29
              clear c29
              by_cases c30 : 0 ≤ x46_2
              · rw [if_pos c30] at H
                have c30b0 : decide (0 ≤ x46_2) = true := decide_eq_true c30
                clear c30
                by_cases c31 : x46_2 < (l0_9.length : Int)
                · rw [if_pos c31] at H
                  have c31b0 : decide (x46_2 < (l0_9.length : Int)) = true := decide_eq_true c31
                  clear c31
                  by_cases c32 : x115009_2.length < 4398046511104
                  · rw [if_pos c32] at H
                    have LMc32 := Aside0.mk c32
                    clear c32
                    obtain ⟨y122, hy122⟩ : ∃ y_ : List (S63), y_ = (x115009_2 ++ [(⟨(rd_T62 l0_9 x46_2).f0, (rd_T62 l0_9 x46_2).f1⟩ : S63)]) := ⟨_, rfl⟩
                    replace H : (laws_candidate.l1 k2 l0_9 (l0_9.length : Int) (wrap64 (x46_2 + 1)) a0_0 a0_1 a0_2 a0_3 a0_4 a0_5 a0_6 a0_7 x115008_1 y122) = some (r1, r2, r3, r4, r5, r6, r7, r8, r9, r10) := by first | (rw [hy122]; with_reducible exact H) | (have H2_ := (Option.bind_some _ _).symm.trans H; rw [hy122]; with_reducible exact H2_) | (have H2_ := (Option.bind_some _ _).symm.trans H; with_reducible exact H2_) | with_reducible exact H | (rw [hy122]; exact H) | exact H
                    have Ny122 := Aside0.mk hy122
                    clear hy122
                    have H' := Aside0.mk H
                    clear H
                    have p120 : 0 ≤ (x46_2 : Int) := of_decide_eq_true (by first | (with_reducible assumption) | assumption)
                    have q120 : x46_2 < (l0_9.length : Int) := of_decide_eq_true (by first | (with_reducible assumption) | assumption)
                    obtain ⟨ad120, e120, hx120_0, hx120_1⟩ := at_T62 HR0_9.out x46_2 p120 q120
                    cases e120
                    replace hx120_0 := (HB.out.cell (World.block_lt_of_cell? w _ hx120_0)).trans hx120_0
                    replace hx120_1 := (HB.out.cell (World.block_lt_of_cell? w _ hx120_1)).trans hx120_1
                    replace p120 := eq_true p120
                    replace q120 := eq_true q120
                    go_wp2_with (first | ((with_reducible refine gate_dst (N := 7) rfl ?_); refine box_event ?hg (N := 7) ?hd (cs := #[.string (⟨#[]⟩ : ByteArray), .string (⟨#[]⟩ : ByteArray)]) (t := 62) ?hr ?_; (case hd => rfl); (case hg => rfl); (case hr => first | (go_simp; done) | (go_simp; rfl)); intro gb121 hg w33 hbox hb; have n0_ := Aside0.mk (Kd.R_below (by (with_reducible repeat (first | apply Kd.R_alloc | apply Kd.R_drewN | apply Kd.R_drew)); exact HO_115008.out) hb); have n1_ := Aside0.mk (Kd.R_below (by (with_reducible repeat (first | apply Kd.R_alloc | apply Kd.R_drewN | apply Kd.R_drew)); exact HO_115009.out) hb); have n2_ := Aside0.mk (blk_below (g := gb112) (o := .cells #[.int .i64 a0_0, .int .i64 a0_1, .int .i64 a0_2, .string a0_3, .int .i64 a0_4, .int .u32 a0_5, .string a0_6, .int .i64 a0_7, .slice A0_8 l0_8.length c0_8, .slice (some ad120) l0_9.length c0_9] 26 (0, 0)) (by (with_reducible repeat (first | refine blk_drewN ?_ _ | refine blk_drew ?_ | refine blk_alloc ?_ _)); exact BK112.out) hb); have n3_ := Aside0.mk (blk_below (g := gb113) (o := .cells #[.int .i64 0, .int .i64 0, .int .i64 0, .string (⟨#[]⟩ : ByteArray), .int .i64 0, .int .u32 0, .string (⟨#[]⟩ : ByteArray), .int .i64 0, .slice none 0 0, .slice none 0 0] 31 (0, 0)) (by (with_reducible repeat (first | refine blk_drewN ?_ _ | refine blk_drew ?_ | refine blk_alloc ?_ _)); exact BK113.out) hb); have n4_ := Aside0.mk (blk_below (g := gb114) (o := .cells #[.int .i64 a0_0, .int .i64 a0_1, .int .i64 a0_2, .string a0_3, .int .i64 a0_4, .int .u32 a0_5, .string a0_6, .int .i64 a0_7, u115008, u115009] 31 (0, 0)) (by (with_reducible repeat (first | refine blk_drewN ?_ _ | refine blk_drew ?_ | refine blk_alloc ?_ _)); exact BK114.out) hb); have n5_ := Aside0.mk (below_step (by repeat (first | (with_reducible first | exact HB.out | apply below_alloc | apply pw_below_drewN | apply below_drew1 | refine below_set ?_ GE112.out | refine below_set ?_ GE113.out | refine below_set ?_ GE114.out) | exact HB.out)) hb); have n6_ := Aside0.mk (hbox); have n7_ := Aside0.mk ((by rw [hg]; exact (below_size (by repeat (first | (with_reducible first | exact HB.out | apply below_alloc | apply pw_below_drewN | apply below_drew1 | refine below_set ?_ GE112.out | refine below_set ?_ GE113.out | refine below_set ?_ GE114.out) | exact HB.out))) : w.heap.size ≤ gb121)); have n8_ := Aside0.mk ((by rw [hg]; exact (below_size (by repeat (first | (with_reducible first | exact HB.out | apply below_alloc | apply pw_below_drewN | apply below_drew1 | refine below_set ?_ GE112.out | refine below_set ?_ GE113.out | refine below_set ?_ GE114.out) | exact HB.out))) : w.heap.size ≤ gb121)); have n9_ := Aside0.mk ((by rw [hg]; exact Nat.ne_of_lt (blk_lt (g := gb112) (o := .cells #[.int .i64 a0_0, .int .i64 a0_1, .int .i64 a0_2, .string a0_3, .int .i64 a0_4, .int .u32 a0_5, .string a0_6, .int .i64 a0_7, .slice A0_8 l0_8.length c0_8, .slice (some ad120) l0_9.length c0_9] 26 (0, 0)) (by (with_reducible repeat (first | refine blk_drewN ?_ _ | refine blk_drew ?_ | refine blk_alloc ?_ _)); exact BK112.out)) : gb112 ≠ gb121)); have n10_ := Aside0.mk ((by rw [hg]; exact Nat.ne_of_gt (blk_lt (g := gb112) (o := .cells #[.int .i64 a0_0, .int .i64 a0_1, .int .i64 a0_2, .string a0_3, .int .i64 a0_4, .int .u32 a0_5, .string a0_6, .int .i64 a0_7, .slice A0_8 l0_8.length c0_8, .slice (some ad120) l0_9.length c0_9] 26 (0, 0)) (by (with_reducible repeat (first | refine blk_drewN ?_ _ | refine blk_drew ?_ | refine blk_alloc ?_ _)); exact BK112.out)) : gb121 ≠ gb112)); have n11_ := Aside0.mk ((by rw [hg]; exact Nat.ne_of_lt (blk_lt (g := gb113) (o := .cells #[.int .i64 0, .int .i64 0, .int .i64 0, .string (⟨#[]⟩ : ByteArray), .int .i64 0, .int .u32 0, .string (⟨#[]⟩ : ByteArray), .int .i64 0, .slice none 0 0, .slice none 0 0] 31 (0, 0)) (by (with_reducible repeat (first | refine blk_drewN ?_ _ | refine blk_drew ?_ | refine blk_alloc ?_ _)); exact BK113.out)) : gb113 ≠ gb121)); have n12_ := Aside0.mk ((by rw [hg]; exact Nat.ne_of_gt (blk_lt (g := gb113) (o := .cells #[.int .i64 0, .int .i64 0, .int .i64 0, .string (⟨#[]⟩ : ByteArray), .int .i64 0, .int .u32 0, .string (⟨#[]⟩ : ByteArray), .int .i64 0, .slice none 0 0, .slice none 0 0] 31 (0, 0)) (by (with_reducible repeat (first | refine blk_drewN ?_ _ | refine blk_drew ?_ | refine blk_alloc ?_ _)); exact BK113.out)) : gb121 ≠ gb113)); have n13_ := Aside0.mk ((by rw [hg]; exact Nat.ne_of_lt (blk_lt (g := gb114) (o := .cells #[.int .i64 a0_0, .int .i64 a0_1, .int .i64 a0_2, .string a0_3, .int .i64 a0_4, .int .u32 a0_5, .string a0_6, .int .i64 a0_7, u115008, u115009] 31 (0, 0)) (by (with_reducible repeat (first | refine blk_drewN ?_ _ | refine blk_drew ?_ | refine blk_alloc ?_ _)); exact BK114.out)) : gb114 ≠ gb121)); have n14_ := Aside0.mk ((by rw [hg]; exact Nat.ne_of_gt (blk_lt (g := gb114) (o := .cells #[.int .i64 a0_0, .int .i64 a0_1, .int .i64 a0_2, .string a0_3, .int .i64 a0_4, .int .u32 a0_5, .string a0_6, .int .i64 a0_7, u115008, u115009] 31 (0, 0)) (by (with_reducible repeat (first | refine blk_drewN ?_ _ | refine blk_drew ?_ | refine blk_alloc ?_ _)); exact BK114.out)) : gb121 ≠ gb114)); clear HO_115008; clear HO_115009; clear BK112; clear BK113; clear BK114; clear HB; have HO_115008 := n0_; have HO_115009 := n1_; have BK112 := n2_; have BK113 := n3_; have BK114 := n4_; have HB := n5_; have BK121 := n6_; have GW121 := n7_; have GE121 := n8_; have NB112_121 := n9_; have NB121_112 := n10_; have NB113_121 := n11_; have NB121_113 := n12_; have NB114_121 := n13_; have NB121_114 := n14_; clear n0_ n1_ n2_ n3_ n4_ n5_ n6_ n7_ n8_ n9_ n10_ n11_ n12_ n13_ n14_; clear hb hbox hg; have hnb34 := NB121_112.out; have hnc34 := NB112_121.out; have hnb35 := NB121_113.out; have hnc35 := NB113_121.out; have hnb36 := NB121_114.out; have hnc36 := NB114_121.out; have hcz37_0 : w33.cell? ⟨gb121, 0, none⟩ = some (.string (⟨#[]⟩ : ByteArray)) := (blk_cell BK121.out 0).trans rfl; have hcz37_1 : w33.cell? ⟨gb121, 1, none⟩ = some (.string (⟨#[]⟩ : ByteArray)) := (blk_cell BK121.out 1).trans rfl; have hfz37_0 := blk_frozen BK121.out 0; have hfz37_1 := blk_frozen BK121.out 1; have hnb38 := NB114_112.out; have hnc38 := NB112_114.out; have hnb39 := NB114_113.out; have hnc39 := NB113_114.out; have hcz40_0 : w33.cell? ⟨gb114, 0, none⟩ = some (.int .i64 a0_0) := (blk_cell BK114.out 0).trans rfl; have hcz40_1 : w33.cell? ⟨gb114, 1, none⟩ = some (.int .i64 a0_1) := (blk_cell BK114.out 1).trans rfl; have hcz40_2 : w33.cell? ⟨gb114, 2, none⟩ = some (.int .i64 a0_2) := (blk_cell BK114.out 2).trans rfl; have hcz40_3 : w33.cell? ⟨gb114, 3, none⟩ = some (.string a0_3) := (blk_cell BK114.out 3).trans rfl; have hcz40_4 : w33.cell? ⟨gb114, 4, none⟩ = some (.int .i64 a0_4) := (blk_cell BK114.out 4).trans rfl; have hcz40_5 : w33.cell? ⟨gb114, 5, none⟩ = some (.int .u32 a0_5) := (blk_cell BK114.out 5).trans rfl; have hcz40_6 : w33.cell? ⟨gb114, 6, none⟩ = some (.string a0_6) := (blk_cell BK114.out 6).trans rfl; have hcz40_7 : w33.cell? ⟨gb114, 7, none⟩ = some (.int .i64 a0_7) := (blk_cell BK114.out 7).trans rfl; have hcz40_8 : w33.cell? ⟨gb114, 8, none⟩ = some (u115008) := (blk_cell BK114.out 8).trans rfl; have hcz40_9 : w33.cell? ⟨gb114, 9, none⟩ = some (u115009) := (blk_cell BK114.out 9).trans rfl; have hfz40_0 := blk_frozen BK114.out 0; have hfz40_1 := blk_frozen BK114.out 1; have hfz40_2 := blk_frozen BK114.out 2; have hfz40_3 := blk_frozen BK114.out 3; have hfz40_4 := blk_frozen BK114.out 4; have hfz40_5 := blk_frozen BK114.out 5; have hfz40_6 := blk_frozen BK114.out 6; have hfz40_7 := blk_frozen BK114.out 7; have hfz40_8 := blk_frozen BK114.out 8; have hfz40_9 := blk_frozen BK114.out 9) | ((with_reducible refine gate_builtin (b := .append) (xs := #[.tmp 51, .tmp 57]) rfl ?_); at_builtin; refine Kd.R_append k63 (w0 := w) w.heap.size rfl (.tmp 51) (.tmp 57) 29 63 (.agg #[(.string ⟨#[]⟩), (.string ⟨#[]⟩)]) 32 rfl Tryz.underlying29 info63 rfl (by decide) (by omega) u115009 x115009_2 (⟨(rd_T62 l0_9 x46_2).f0, (rd_T62 l0_9 x46_2).f1⟩ : S63) [.string ((rd_T62 l0_9 x46_2).f0), .string ((rd_T62 l0_9 x46_2).f1)] (fun _ => True) (fun _ => False) rfl (by first | (go_simp; done) | (go_simp; rfl)) ?aP (fun _ hk => hk.elim) ?aF ?aO ?aB ?aS ?aL ?_; (case aP => exact k63_mkM _ _ _ (⟨(rd_T62 l0_9 x46_2).f0, (rd_T62 l0_9 x46_2).f1⟩ : S63)); (case aB => exact (by repeat (first | (with_reducible first | exact HB.out | apply below_alloc | apply pw_below_drewN | apply below_drew1 | refine below_set ?_ GE112.out | refine below_set ?_ GE113.out | refine below_set ?_ GE114.out | refine below_set ?_ GE121.out) | exact HB.out))); (case aF => exact (fun _ _ => trivial)); (case aO => exact (by (with_reducible repeat (first | apply Kd.R_alloc | apply Kd.R_drewN | apply Kd.R_drew)); exact Kd.R_mono (Kd.R_far (p := ⟨gb121, 1, none⟩) (Kd.R_far (p := ⟨gb121, 0, none⟩) (Kd.R_types HO_115009.out BK121.out (by decide)) (fun _ hk => hk.2) (.string ((rd_T62 l0_9 x46_2).f0))) (fun _ hk => hk.2) (.string ((rd_T62 l0_9 x46_2).f1))) (fun _ hk => trivial))); (case aS => exact (below_size (by repeat (first | (with_reducible first | exact HB.out | apply below_alloc | apply pw_below_drewN | apply below_drew1 | refine below_set ?_ GE112.out | refine below_set ?_ GE113.out | refine below_set ?_ GE114.out | refine below_set ?_ GE121.out) | exact HB.out)))); (case aL => have := LMc32.out; omega); intro v123 w41 ho hb hg hat; rw [← Ny122.out] at ho; have n0_ := Aside0.mk (Kd.R_over' (by (with_reducible repeat (first | apply Kd.R_alloc | apply Kd.R_drewN | apply Kd.R_drew)); exact (Kd.R_mono (Kd.R_far (p := ⟨gb121, 1, none⟩) (Kd.R_far (p := ⟨gb121, 0, none⟩) (Kd.R_types HO_115008.out BK121.out (by decide)) (fun _ hk => hk.2) (.string ((rd_T62 l0_9 x46_2).f0))) (fun _ hk => hk.2) (.string ((rd_T62 l0_9 x46_2).f1))) (fun _ h_ => h_.1))) (Kd.R_typed (by (with_reducible repeat (first | apply Kd.R_alloc | apply Kd.R_drewN | apply Kd.R_drew)); exact (Kd.R_mono (Kd.R_far (p := ⟨gb121, 1, none⟩) (Kd.R_far (p := ⟨gb121, 0, none⟩) (Kd.R_types HO_115009.out BK121.out (by decide)) (fun _ hk => hk.2) (.string ((rd_T62 l0_9 x46_2).f0))) (fun _ hk => hk.2) (.string ((rd_T62 l0_9 x46_2).f1))) (fun _ h_ => h_.1)))) (by decide) hg); have n1_ := Aside0.mk (blk_grown (g := gb112) (o := .cells #[.int .i64 a0_0, .int .i64 a0_1, .int .i64 a0_2, .string a0_3, .int .i64 a0_4, .int .u32 a0_5, .string a0_6, .int .i64 a0_7, .slice A0_8 l0_8.length c0_8, .slice (some ad120) l0_9.length c0_9] 26 (0, 0)) (by (with_reducible repeat (first | refine blk_drewN ?_ _ | refine blk_drew ?_ | refine blk_alloc ?_ _)); refine blk_far ?_ NB112_121.out _; (with_reducible repeat (first | refine blk_drewN ?_ _ | refine blk_drew ?_ | refine blk_alloc ?_ _)); refine blk_far ?_ NB112_121.out _; (with_reducible repeat (first | refine blk_drewN ?_ _ | refine blk_drew ?_ | refine blk_alloc ?_ _)); exact BK112.out) hg (Kd.R_ne HO_115009.out BK112.out (by decide))); have n2_ := Aside0.mk (blk_grown (g := gb113) (o := .cells #[.int .i64 0, .int .i64 0, .int .i64 0, .string (⟨#[]⟩ : ByteArray), .int .i64 0, .int .u32 0, .string (⟨#[]⟩ : ByteArray), .int .i64 0, .slice none 0 0, .slice none 0 0] 31 (0, 0)) (by (with_reducible repeat (first | refine blk_drewN ?_ _ | refine blk_drew ?_ | refine blk_alloc ?_ _)); refine blk_far ?_ NB113_121.out _; (with_reducible repeat (first | refine blk_drewN ?_ _ | refine blk_drew ?_ | refine blk_alloc ?_ _)); refine blk_far ?_ NB113_121.out _; (with_reducible repeat (first | refine blk_drewN ?_ _ | refine blk_drew ?_ | refine blk_alloc ?_ _)); exact BK113.out) hg (Kd.R_ne HO_115009.out BK113.out (by decide))); have n3_ := Aside0.mk (blk_grown (g := gb114) (o := .cells #[.int .i64 a0_0, .int .i64 a0_1, .int .i64 a0_2, .string a0_3, .int .i64 a0_4, .int .u32 a0_5, .string a0_6, .int .i64 a0_7, u115008, u115009] 31 (0, 0)) (by (with_reducible repeat (first | refine blk_drewN ?_ _ | refine blk_drew ?_ | refine blk_alloc ?_ _)); refine blk_far ?_ NB114_121.out _; (with_reducible repeat (first | refine blk_drewN ?_ _ | refine blk_drew ?_ | refine blk_alloc ?_ _)); refine blk_far ?_ NB114_121.out _; (with_reducible repeat (first | refine blk_drewN ?_ _ | refine blk_drew ?_ | refine blk_alloc ?_ _)); exact BK114.out) hg (Kd.R_ne HO_115009.out BK114.out (by decide))); have n4_ := Aside0.mk (blk_grown (g := gb121) (o := .cells #[.string ((rd_T62 l0_9 x46_2).f0), .string ((rd_T62 l0_9 x46_2).f1)] 62 (0, 0)) (by (with_reducible repeat (first | refine blk_drewN ?_ _ | refine blk_drew ?_ | refine blk_alloc ?_ _)); refine blk_put (cs := #[.string ((rd_T62 l0_9 x46_2).f0), .string (⟨#[]⟩ : ByteArray)]) ?_ 1 _ rfl; (with_reducible repeat (first | refine blk_drewN ?_ _ | refine blk_drew ?_ | refine blk_alloc ?_ _)); refine blk_put (cs := #[.string (⟨#[]⟩ : ByteArray), .string (⟨#[]⟩ : ByteArray)]) ?_ 0 _ rfl; (with_reducible repeat (first | refine blk_drewN ?_ _ | refine blk_drew ?_ | refine blk_alloc ?_ _)); exact BK121.out) hg (Kd.R_ne HO_115009.out BK121.out (by decide))); have n5_ := Aside0.mk (hb); have n6_ := Aside0.mk (ho); clear HO_115008; clear BK112; clear BK113; clear BK114; clear BK121; clear HB; clear HO_115009; have HO_115008 := n0_; have BK112 := n1_; have BK113 := n2_; have BK114 := n3_; have BK121 := n4_; have HB := n5_; have HO124 := n6_; clear n0_ n1_ n2_ n3_ n4_ n5_ n6_; clear ho hb hg hat; obtain ⟨Ao42, co42, eo42⟩ := Kd.R_slice HO124.out; subst eo42; have hcz43_0 : w41.cell? ⟨gb114, 0, none⟩ = some (.int .i64 a0_0) := (blk_cell BK114.out 0).trans rfl; have hcz43_1 : w41.cell? ⟨gb114, 1, none⟩ = some (.int .i64 a0_1) := (blk_cell BK114.out 1).trans rfl; have hcz43_2 : w41.cell? ⟨gb114, 2, none⟩ = some (.int .i64 a0_2) := (blk_cell BK114.out 2).trans rfl; have hcz43_3 : w41.cell? ⟨gb114, 3, none⟩ = some (.string a0_3) := (blk_cell BK114.out 3).trans rfl; have hcz43_4 : w41.cell? ⟨gb114, 4, none⟩ = some (.int .i64 a0_4) := (blk_cell BK114.out 4).trans rfl; have hcz43_5 : w41.cell? ⟨gb114, 5, none⟩ = some (.int .u32 a0_5) := (blk_cell BK114.out 5).trans rfl; have hcz43_6 : w41.cell? ⟨gb114, 6, none⟩ = some (.string a0_6) := (blk_cell BK114.out 6).trans rfl; have hcz43_7 : w41.cell? ⟨gb114, 7, none⟩ = some (.int .i64 a0_7) := (blk_cell BK114.out 7).trans rfl; have hcz43_8 : w41.cell? ⟨gb114, 8, none⟩ = some (u115008) := (blk_cell BK114.out 8).trans rfl; have hcz43_9 : w41.cell? ⟨gb114, 9, none⟩ = some (u115009) := (blk_cell BK114.out 9).trans rfl; have hfz43_0 := blk_frozen BK114.out 0; have hfz43_1 := blk_frozen BK114.out 1; have hfz43_2 := blk_frozen BK114.out 2; have hfz43_3 := blk_frozen BK114.out 3; have hfz43_4 := blk_frozen BK114.out 4; have hfz43_5 := blk_frozen BK114.out 5; have hfz43_6 := blk_frozen BK114.out 6; have hfz43_7 := blk_frozen BK114.out 7; have hfz43_8 := blk_frozen BK114.out 8; have hfz43_9 := blk_frozen BK114.out 9))
                    go_roundg k2
                    case measure => have := HK1.out; have := HK2.out; omega
                    case rel => exact ⟨(wrap64 (x46_2 + 1)), (y122), (.slice Ao42 y122.length co42), (by first | rfl | (simp; done) | (simp [*]; done)), H', ⟨by have := HK1.out; have := HK2.out; omega⟩, ⟨by (with_reducible repeat (first | apply Kd.R_alloc | apply Kd.R_drewN | apply Kd.R_drew)); exact Kd.R_mono (Kd.R_far (p := ⟨gb114, 9, none⟩) (Kd.R_types HO_115008.out BK114.out (by decide)) (fun _ hk => hk.2) (.slice Ao42 y122.length co42)) (fun _ hk => trivial)⟩, ⟨by (with_reducible repeat (first | apply Kd.R_alloc | apply Kd.R_drewN | apply Kd.R_drew)); exact Kd.R_mono (Kd.R_far (p := ⟨gb114, 9, none⟩) (Kd.R_types HO124.out BK114.out (by decide)) (fun _ hk => hk.2) (.slice Ao42 y122.length co42)) (fun _ hk => trivial)⟩, ⟨by (with_reducible repeat (first | refine blk_drewN ?_ _ | refine blk_drew ?_ | refine blk_alloc ?_ _)); refine blk_far ?_ NB112_114.out _; (with_reducible repeat (first | refine blk_drewN ?_ _ | refine blk_drew ?_ | refine blk_alloc ?_ _)); exact BK112.out⟩, ⟨by (with_reducible repeat (first | refine blk_drewN ?_ _ | refine blk_drew ?_ | refine blk_alloc ?_ _)); refine blk_far ?_ NB113_114.out _; (with_reducible repeat (first | refine blk_drewN ?_ _ | refine blk_drew ?_ | refine blk_alloc ?_ _)); exact BK113.out⟩, ⟨by (with_reducible repeat (first | refine blk_drewN ?_ _ | refine blk_drew ?_ | refine blk_alloc ?_ _)); refine blk_put (cs := #[.int .i64 a0_0, .int .i64 a0_1, .int .i64 a0_2, .string a0_3, .int .i64 a0_4, .int .u32 a0_5, .string a0_6, .int .i64 a0_7, u115008, u115009]) ?_ 9 _ rfl; (with_reducible repeat (first | refine blk_drewN ?_ _ | refine blk_drew ?_ | refine blk_alloc ?_ _)); exact BK114.out⟩, ⟨by repeat (first | (with_reducible first | exact HB.out | apply below_alloc | apply pw_below_drewN | apply below_drew1 | refine below_set ?_ GE112.out | refine below_set ?_ GE113.out | refine below_set ?_ GE114.out | refine below_set ?_ GE121.out) | exact HB.out)⟩⟩
                  · rw [if_neg c32] at H
                    exact absurd H (by simp)
                · rw [if_neg c31] at H
                  exact absurd H (by simp)
              · rw [if_neg c30] at H
                exact absurd H (by simp)
            · rw [if_neg c29] at H
              have c29b0 : decide (x46_2 < (l0_9.length : Int)) = false := decide_eq_false c29
              clear c29
              simp only [Option.some.injEq, Prod.mk.injEq] at H
              obtain ⟨rfl, rfl, rfl, rfl, rfl, rfl, rfl, rfl, rfl, rfl⟩ := H
              have hnb44 := NB114_112.out
              have hnc44 := NB112_114.out
              have hnb45 := NB114_113.out
              have hnc45 := NB113_114.out
              have hcz46_0 : wr.cell? ⟨gb114, 0, none⟩ = some (.int .i64 a0_0) := (blk_cell BK114.out 0).trans rfl
              have hcz46_1 : wr.cell? ⟨gb114, 1, none⟩ = some (.int .i64 a0_1) := (blk_cell BK114.out 1).trans rfl
              have hcz46_2 : wr.cell? ⟨gb114, 2, none⟩ = some (.int .i64 a0_2) := (blk_cell BK114.out 2).trans rfl
              have hcz46_3 : wr.cell? ⟨gb114, 3, none⟩ = some (.string a0_3) := (blk_cell BK114.out 3).trans rfl
              have hcz46_4 : wr.cell? ⟨gb114, 4, none⟩ = some (.int .i64 a0_4) := (blk_cell BK114.out 4).trans rfl
              have hcz46_5 : wr.cell? ⟨gb114, 5, none⟩ = some (.int .u32 a0_5) := (blk_cell BK114.out 5).trans rfl
              have hcz46_6 : wr.cell? ⟨gb114, 6, none⟩ = some (.string a0_6) := (blk_cell BK114.out 6).trans rfl
              have hcz46_7 : wr.cell? ⟨gb114, 7, none⟩ = some (.int .i64 a0_7) := (blk_cell BK114.out 7).trans rfl
              have hcz46_8 : wr.cell? ⟨gb114, 8, none⟩ = some (u115008) := (blk_cell BK114.out 8).trans rfl
              have hcz46_9 : wr.cell? ⟨gb114, 9, none⟩ = some (u115009) := (blk_cell BK114.out 9).trans rfl
              have hfz46_0 := blk_frozen BK114.out 0
              have hfz46_1 := blk_frozen BK114.out 1
              have hfz46_2 := blk_frozen BK114.out 2
              have hfz46_3 := blk_frozen BK114.out 3
              have hfz46_4 := blk_frozen BK114.out 4
              have hfz46_5 := blk_frozen BK114.out 5
              have hfz46_6 := blk_frozen BK114.out 6
              have hfz46_7 := blk_frozen BK114.out 7
              have hfz46_8 := blk_frozen BK114.out 8
              have hfz46_9 := blk_frozen BK114.out 9
              have hnb47 := NB113_112.out
              have hnc47 := NB112_113.out
              have hcz48_0 : wr.cell? ⟨gb113, 0, none⟩ = some (.int .i64 0) := (blk_cell BK113.out 0).trans rfl
              have hcz48_1 : wr.cell? ⟨gb113, 1, none⟩ = some (.int .i64 0) := (blk_cell BK113.out 1).trans rfl
              have hcz48_2 : wr.cell? ⟨gb113, 2, none⟩ = some (.int .i64 0) := (blk_cell BK113.out 2).trans rfl
              have hcz48_3 : wr.cell? ⟨gb113, 3, none⟩ = some (.string (⟨#[]⟩ : ByteArray)) := (blk_cell BK113.out 3).trans rfl
              have hcz48_4 : wr.cell? ⟨gb113, 4, none⟩ = some (.int .i64 0) := (blk_cell BK113.out 4).trans rfl
              have hcz48_5 : wr.cell? ⟨gb113, 5, none⟩ = some (.int .u32 0) := (blk_cell BK113.out 5).trans rfl
              have hcz48_6 : wr.cell? ⟨gb113, 6, none⟩ = some (.string (⟨#[]⟩ : ByteArray)) := (blk_cell BK113.out 6).trans rfl
              have hcz48_7 : wr.cell? ⟨gb113, 7, none⟩ = some (.int .i64 0) := (blk_cell BK113.out 7).trans rfl
              have hcz48_8 : wr.cell? ⟨gb113, 8, none⟩ = some (.slice none 0 0) := (blk_cell BK113.out 8).trans rfl
              have hcz48_9 : wr.cell? ⟨gb113, 9, none⟩ = some (.slice none 0 0) := (blk_cell BK113.out 9).trans rfl
              have hfz48_0 := blk_frozen BK113.out 0
              have hfz48_1 := blk_frozen BK113.out 1
              have hfz48_2 := blk_frozen BK113.out 2
              have hfz48_3 := blk_frozen BK113.out 3
              have hfz48_4 := blk_frozen BK113.out 4
              have hfz48_5 := blk_frozen BK113.out 5
              have hfz48_6 := blk_frozen BK113.out 6
              have hfz48_7 := blk_frozen BK113.out 7
              have hfz48_8 := blk_frozen BK113.out 8
              have hfz48_9 := blk_frozen BK113.out 9
              obtain ⟨Ao49, co49, eo49⟩ := Kd.R_slice HO_115008.out
              subst eo49
              obtain ⟨Ao50, co50, eo50⟩ := Kd.R_slice HO_115009.out
              subst eo50
              go_wp2
              refine bodyPost_ret (results_cell_row rfl _ _ gb113 31 #[.int .i64 a0_0, .int .i64 a0_1, .int .i64 a0_2, .string a0_3, .int .i64 a0_4, .int .u32 a0_5, .string a0_6, .int .i64 a0_7, .slice Ao49 x115008_1.length co49, .slice Ao50 x115009_2.length co50] (0, 0) _ rfl (by (with_reducible repeat (first | refine blk_drewN ?_ _ | refine blk_drew ?_ | refine blk_alloc ?_ _)); refine blk_put (cs := #[.int .i64 a0_0, .int .i64 a0_1, .int .i64 a0_2, .string a0_3, .int .i64 a0_4, .int .u32 a0_5, .string a0_6, .int .i64 a0_7, .slice Ao49 x115008_1.length co49, .slice none 0 0]) ?_ 9 _ rfl; (with_reducible repeat (first | refine blk_drewN ?_ _ | refine blk_drew ?_ | refine blk_alloc ?_ _)); refine blk_put (cs := #[.int .i64 a0_0, .int .i64 a0_1, .int .i64 a0_2, .string a0_3, .int .i64 a0_4, .int .u32 a0_5, .string a0_6, .int .i64 a0_7, .slice none 0 0, .slice none 0 0]) ?_ 8 _ rfl; (with_reducible repeat (first | refine blk_drewN ?_ _ | refine blk_drew ?_ | refine blk_alloc ?_ _)); refine blk_put (cs := #[.int .i64 a0_0, .int .i64 a0_1, .int .i64 a0_2, .string a0_3, .int .i64 a0_4, .int .u32 a0_5, .string a0_6, .int .i64 0, .slice none 0 0, .slice none 0 0]) ?_ 7 _ rfl; (with_reducible repeat (first | refine blk_drewN ?_ _ | refine blk_drew ?_ | refine blk_alloc ?_ _)); refine blk_put (cs := #[.int .i64 a0_0, .int .i64 a0_1, .int .i64 a0_2, .string a0_3, .int .i64 a0_4, .int .u32 a0_5, .string (⟨#[]⟩ : ByteArray), .int .i64 0, .slice none 0 0, .slice none 0 0]) ?_ 6 _ rfl; (with_reducible repeat (first | refine blk_drewN ?_ _ | refine blk_drew ?_ | refine blk_alloc ?_ _)); refine blk_put (cs := #[.int .i64 a0_0, .int .i64 a0_1, .int .i64 a0_2, .string a0_3, .int .i64 a0_4, .int .u32 0, .string (⟨#[]⟩ : ByteArray), .int .i64 0, .slice none 0 0, .slice none 0 0]) ?_ 5 _ rfl; (with_reducible repeat (first | refine blk_drewN ?_ _ | refine blk_drew ?_ | refine blk_alloc ?_ _)); refine blk_put (cs := #[.int .i64 a0_0, .int .i64 a0_1, .int .i64 a0_2, .string a0_3, .int .i64 0, .int .u32 0, .string (⟨#[]⟩ : ByteArray), .int .i64 0, .slice none 0 0, .slice none 0 0]) ?_ 4 _ rfl; (with_reducible repeat (first | refine blk_drewN ?_ _ | refine blk_drew ?_ | refine blk_alloc ?_ _)); refine blk_put (cs := #[.int .i64 a0_0, .int .i64 a0_1, .int .i64 a0_2, .string (⟨#[]⟩ : ByteArray), .int .i64 0, .int .u32 0, .string (⟨#[]⟩ : ByteArray), .int .i64 0, .slice none 0 0, .slice none 0 0]) ?_ 3 _ rfl; (with_reducible repeat (first | refine blk_drewN ?_ _ | refine blk_drew ?_ | refine blk_alloc ?_ _)); refine blk_put (cs := #[.int .i64 a0_0, .int .i64 a0_1, .int .i64 0, .string (⟨#[]⟩ : ByteArray), .int .i64 0, .int .u32 0, .string (⟨#[]⟩ : ByteArray), .int .i64 0, .slice none 0 0, .slice none 0 0]) ?_ 2 _ rfl; (with_reducible repeat (first | refine blk_drewN ?_ _ | refine blk_drew ?_ | refine blk_alloc ?_ _)); refine blk_put (cs := #[.int .i64 a0_0, .int .i64 0, .int .i64 0, .string (⟨#[]⟩ : ByteArray), .int .i64 0, .int .u32 0, .string (⟨#[]⟩ : ByteArray), .int .i64 0, .slice none 0 0, .slice none 0 0]) ?_ 1 _ rfl; (with_reducible repeat (first | refine blk_drewN ?_ _ | refine blk_drew ?_ | refine blk_alloc ?_ _)); refine blk_put (cs := #[.int .i64 0, .int .i64 0, .int .i64 0, .string (⟨#[]⟩ : ByteArray), .int .i64 0, .int .u32 0, .string (⟨#[]⟩ : ByteArray), .int .i64 0, .slice none 0 0, .slice none 0 0]) ?_ 0 _ rfl; (with_reducible repeat (first | refine blk_drewN ?_ _ | refine blk_drew ?_ | refine blk_alloc ?_ _)); exact BK113.out) Tryz.underlying31 rfl (by kernel_rfl)) rfl ?_
              exact ⟨_, _, by first | rfl | (simp [errW_none, errW_some] <;> rfl) | (simp [*, errW_none, errW_some] <;> rfl), by (with_reducible repeat (first | apply Kd.R_alloc | apply Kd.R_drewN | apply Kd.R_drew)); exact Kd.R_mono (Kd.R_far (p := ⟨gb113, 9, none⟩) (Kd.R_far (p := ⟨gb113, 8, none⟩) (Kd.R_far (p := ⟨gb113, 7, none⟩) (Kd.R_far (p := ⟨gb113, 6, none⟩) (Kd.R_far (p := ⟨gb113, 5, none⟩) (Kd.R_far (p := ⟨gb113, 4, none⟩) (Kd.R_far (p := ⟨gb113, 3, none⟩) (Kd.R_far (p := ⟨gb113, 2, none⟩) (Kd.R_far (p := ⟨gb113, 1, none⟩) (Kd.R_far (p := ⟨gb113, 0, none⟩) (Kd.R_types HO_115008.out BK113.out (by decide)) (fun _ hk => hk.2) (.int .i64 a0_0)) (fun _ hk => hk.2) (.int .i64 a0_1)) (fun _ hk => hk.2) (.int .i64 a0_2)) (fun _ hk => hk.2) (.string a0_3)) (fun _ hk => hk.2) (.int .i64 a0_4)) (fun _ hk => hk.2) (.int .u32 a0_5)) (fun _ hk => hk.2) (.string a0_6)) (fun _ hk => hk.2) (.int .i64 a0_7)) (fun _ hk => hk.2) (.slice Ao49 x115008_1.length co49)) (fun _ hk => hk.2) (.slice Ao50 x115009_2.length co50)) (fun _ hk => trivial), by (with_reducible repeat (first | apply Kd.R_alloc | apply Kd.R_drewN | apply Kd.R_drew)); exact Kd.R_mono (Kd.R_far (p := ⟨gb113, 9, none⟩) (Kd.R_far (p := ⟨gb113, 8, none⟩) (Kd.R_far (p := ⟨gb113, 7, none⟩) (Kd.R_far (p := ⟨gb113, 6, none⟩) (Kd.R_far (p := ⟨gb113, 5, none⟩) (Kd.R_far (p := ⟨gb113, 4, none⟩) (Kd.R_far (p := ⟨gb113, 3, none⟩) (Kd.R_far (p := ⟨gb113, 2, none⟩) (Kd.R_far (p := ⟨gb113, 1, none⟩) (Kd.R_far (p := ⟨gb113, 0, none⟩) (Kd.R_types HO_115009.out BK113.out (by decide)) (fun _ hk => hk.2) (.int .i64 a0_0)) (fun _ hk => hk.2) (.int .i64 a0_1)) (fun _ hk => hk.2) (.int .i64 a0_2)) (fun _ hk => hk.2) (.string a0_3)) (fun _ hk => hk.2) (.int .i64 a0_4)) (fun _ hk => hk.2) (.int .u32 a0_5)) (fun _ hk => hk.2) (.string a0_6)) (fun _ hk => hk.2) (.int .i64 a0_7)) (fun _ hk => hk.2) (.slice Ao49 x115008_1.length co49)) (fun _ hk => hk.2) (.slice Ao50 x115009_2.length co50)) (fun _ hk => trivial), by repeat (first | (with_reducible first | exact HB.out | apply below_alloc | apply pw_below_drewN | apply below_drew1 | refine below_set ?_ GE112.out | refine below_set ?_ GE113.out | refine below_set ?_ GE114.out) | exact HB.out)⟩

/-! ### spec_TCP: function 14 -/
def spec_TCP.f (a0 : Int) : Option (Bool) := if a0 = 3 then (some true) else (some (a0 == 4))
set_option maxHeartbeats 8000000 in
set_option maxRecDepth 100000 in
theorem spec_TCP.calls (a0 : Int) (r : Bool) (w : World) (h : spec_TCP.f a0 = some r) :
    Calls Tryz.prog 14 #[.int .i64 a0] w fun e w' => e = .returned (.bool r) ∧ Drawn0 w w' := by
  have H : (if a0 = 3 then (some true) else (some (a0 == 4))) = some r := h
  clear h
  by_cases c2 : a0 = 3
  · rw [if_pos c2] at H
    have c2b0 : (a0 == 3) = true := beq_iff_eq.mpr c2
    have c2b1 : (a0 != 3) = false := bne_eq_false_iff_eq.mpr c2
    clear c2
    obtain rfl := Option.some.inj H
    go_enter Tryz.func14, Tryz.ntmps14
    go_wp2
    go_ret
    exact ⟨by first | rfl | (simp; done) | (simp [*]; done), by repeat (first | exact Drawn0.refl _ | apply Drawn0.step)⟩
  · rw [if_neg c2] at H
    have c2b0 : (a0 == 3) = false := beq_eq_false_iff_ne.mpr c2
    have c2b1 : (a0 != 3) = true := bne_iff_ne.mpr c2
    obtain rfl := Option.some.inj H
    go_enter Tryz.func14, Tryz.ntmps14
    go_wp2
    go_ret
    exact ⟨by first | rfl | (simp; done) | (simp [*]; done), by repeat (first | exact Drawn0.refl _ | apply Drawn0.step)⟩

end Go.Proofs.YtmfdbcfpcifmcaaGreatDoor.PFnFormat
