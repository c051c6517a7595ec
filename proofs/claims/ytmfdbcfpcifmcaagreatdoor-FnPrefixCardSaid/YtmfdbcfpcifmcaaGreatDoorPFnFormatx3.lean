-- PRINTED BY print.sh 35421559b90ae4d0a3588c463048766b98c2df88dd9212a6774a882060cdf62d: not written by this session
import Derived.Test.YtmfdbcfpcifmcaaGreatDoorPFnFormatx0
namespace Go.Proofs.YtmfdbcfpcifmcaaGreatDoor.PFnFormat
open Go.RowKit Go.Proofs.YtmfdbcfpcifmcaaGreatDoorW.PrintWords Go.Proofs.YtmfdbcfpcifmcaaGreatDoorW.PrintLast Go.Proofs.YtmfdbcfpcifmcaaGreatDoorW.PrintMore
attribute [local go_sem] max2_int min2_int max_two min_two max_three min_three max_four min_four   -- for this text's walks alone
set_option linter.unusedVariables false
set_option linter.unusedSimpArgs false

/-! ### laws_zzFits3: function 49 -/
def laws_zzFits3.f (a0_0 : ByteArray) (a0_1 : Int) : Option (Bool) := if (a0_0.size : Int) > 2147483647 then (some false) else (some true)
set_option maxHeartbeats 8000000 in
set_option maxRecDepth 100000 in
theorem laws_zzFits3.calls (a0_0 : ByteArray) (a0_1 : Int) (r : Bool) (w : World) (h : laws_zzFits3.f a0_0 a0_1 = some r) :
    Calls Tryz.prog 49 #[.agg #[.string a0_0, .int .i64 a0_1]] w fun e w' => e = .returned (.bool r) ∧ Below w.heap.size w w' := by
  have hu59 := Tryz.underlying59
  have HB := Aside0.mk (Below.refl w.heap.size w)
  have H : (if (a0_0.size : Int) > 2147483647 then (some false) else (some true)) = some r := h
  clear h
  by_cases c2 : (a0_0.size : Int) > 2147483647
  · rw [if_pos c2] at H
    have c2b0 : decide (2147483647 < (a0_0.size : Int)) = true := decide_eq_true c2
    have c2b1 : decide (2147483647 < a0_0.size) = true := decide_eq_true (by omega)
    clear c2
    obtain rfl := Option.some.inj H
    go_enter Tryz.func49, Tryz.ntmps49
    go_wp2_with (first | ((with_reducible refine gate_dst (N := 1) rfl ?_); refine box_event ?hg (N := 1) ?hd (cs := #[.string a0_0, .int .i64 a0_1]) (t := 59) ?hr ?_; (case hd => rfl); (case hg => rfl); (case hr => first | (go_simp; done) | (go_simp; rfl)); intro gb101 hg w3 hbox hb; have n0_ := Aside0.mk (below_step (by repeat (first | (with_reducible first | exact HB.out | apply below_alloc | apply pw_below_drewN | apply below_drew1) | exact HB.out)) hb); have n1_ := Aside0.mk (hbox); have n2_ := Aside0.mk ((by rw [hg]; exact (below_size (by repeat (first | (with_reducible first | exact HB.out | apply below_alloc | apply pw_below_drewN | apply below_drew1) | exact HB.out))) : w.heap.size ≤ gb101)); have n3_ := Aside0.mk ((by rw [hg]; exact (below_size (by repeat (first | (with_reducible first | exact HB.out | apply below_alloc | apply pw_below_drewN | apply below_drew1) | exact HB.out))) : w.heap.size ≤ gb101)); clear HB; have HB := n0_; have BK101 := n1_; have GW101 := n2_; have GE101 := n3_; clear n0_ n1_ n2_ n3_; clear hb hbox hg; have hcz4_0 : w3.cell? ⟨gb101, 0, none⟩ = some (.string a0_0) := (blk_cell BK101.out 0).trans rfl; have hcz4_1 : w3.cell? ⟨gb101, 1, none⟩ = some (.int .i64 a0_1) := (blk_cell BK101.out 1).trans rfl; have hfz4_0 := blk_frozen BK101.out 0; have hfz4_1 := blk_frozen BK101.out 1))
    go_ret
    exact ⟨by first | rfl | (simp [errW_none, errW_some] <;> rfl) | (simp [*, errW_none, errW_some] <;> rfl), by repeat (first | (with_reducible first | exact HB.out | apply below_alloc | apply pw_below_drewN | apply below_drew1 | refine below_set ?_ GE101.out) | exact HB.out)⟩
  · rw [if_neg c2] at H
    have c2b0 : decide (2147483647 < (a0_0.size : Int)) = false := decide_eq_false c2
    have c2b1 : decide (2147483647 < a0_0.size) = false := decide_eq_false (by omega)
    clear c2
    obtain rfl := Option.some.inj H
    go_enter Tryz.func49, Tryz.ntmps49
    go_wp2_with (first | ((with_reducible refine gate_dst (N := 1) rfl ?_); refine box_event ?hg (N := 1) ?hd (cs := #[.string a0_0, .int .i64 a0_1]) (t := 59) ?hr ?_; (case hd => rfl); (case hg => rfl); (case hr => first | (go_simp; done) | (go_simp; rfl)); intro gb101 hg w5 hbox hb; have n0_ := Aside0.mk (below_step (by repeat (first | (with_reducible first | exact HB.out | apply below_alloc | apply pw_below_drewN | apply below_drew1) | exact HB.out)) hb); have n1_ := Aside0.mk (hbox); have n2_ := Aside0.mk ((by rw [hg]; exact (below_size (by repeat (first | (with_reducible first | exact HB.out | apply below_alloc | apply pw_below_drewN | apply below_drew1) | exact HB.out))) : w.heap.size ≤ gb101)); have n3_ := Aside0.mk ((by rw [hg]; exact (below_size (by repeat (first | (with_reducible first | exact HB.out | apply below_alloc | apply pw_below_drewN | apply below_drew1) | exact HB.out))) : w.heap.size ≤ gb101)); clear HB; have HB := n0_; have BK101 := n1_; have GW101 := n2_; have GE101 := n3_; clear n0_ n1_ n2_ n3_; clear hb hbox hg; have hcz6_0 : w5.cell? ⟨gb101, 0, none⟩ = some (.string a0_0) := (blk_cell BK101.out 0).trans rfl; have hcz6_1 : w5.cell? ⟨gb101, 1, none⟩ = some (.int .i64 a0_1) := (blk_cell BK101.out 1).trans rfl; have hfz6_0 := blk_frozen BK101.out 0; have hfz6_1 := blk_frozen BK101.out 1))
    go_ret
    exact ⟨by first | rfl | (simp [errW_none, errW_some] <;> rfl) | (simp [*, errW_none, errW_some] <;> rfl), by repeat (first | (with_reducible first | exact HB.out | apply below_alloc | apply pw_below_drewN | apply below_drew1 | refine below_set ?_ GE101.out) | exact HB.out)⟩

/-! ### laws_zzFits2: function 29 -/
def laws_zzFits2.l0 : Nat → List (S59) → Int → Int → Option (Bool)
  | 0, _, _, _ => none
  | k + 1, x8, x9, x10 => if x10 < x9 then (if 0 ≤ x10 then (if x10 < (x8.length : Int) then ((laws_zzFits3.f ((rd_T59 x8 x10).f0) ((rd_T59 x8 x10).f1)).bind fun t104 => (if t104 = true then (laws_zzFits2.l0 k x8 x9 (wrap64 (x10 + 1))) else (some false))) else (none)) else (none)) else (some true)
def laws_zzFits2.f (k : Nat) (l0 : List (S59)) : Option (Bool) := if (l0.length : Int) > 2147483647 then (some false) else (laws_zzFits2.l0 k l0 (l0.length : Int) 0)
theorem laws_zzFits2.mono_l : ∀ k, (∀ y0 y1 y2, LeO (laws_zzFits2.l0 k y0 y1 y2) (laws_zzFits2.l0 (k + 1) y0 y1 y2))
  | 0 => fun _ _ _ r h => by simp [laws_zzFits2.l0] at h
  | k + 1 => by
    have ih0 := laws_zzFits2.mono_l k
    · intro y0 y1 y2
      unfold laws_zzFits2.l0
      repeat' first
      | (with_reducible exact ih0 _ _ _)
      | (with_reducible exact LeO.refl _)
      | (with_reducible exact LeO.none _)
      | (with_reducible refine LeO.ite ?_ ?_)
      | (with_reducible refine LeO.bind ?_ (fun _ => ?_))
      | exact ih0 _ _ _
      | exact LeO.none _
      | refine LeO.ite ?_ ?_
      | refine LeO.bind ?_ (fun _ => ?_)
theorem laws_zzFits2.mono : ∀ a0 k, LeO (laws_zzFits2.f k a0) (laws_zzFits2.f (k + 1) a0) := by
  intro a0 k
  have ih0 := laws_zzFits2.mono_l k
  unfold laws_zzFits2.f
  repeat' first
      | (with_reducible exact ih0 _ _ _)
      | (with_reducible exact LeO.refl _)
      | (with_reducible exact LeO.none _)
      | (with_reducible refine LeO.ite ?_ ?_)
      | (with_reducible refine LeO.bind ?_ (fun _ => ?_))
      | exact ih0 _ _ _
      | exact LeO.none _
      | refine LeO.ite ?_ ?_
      | refine LeO.bind ?_ (fun _ => ?_)
set_option maxHeartbeats 8000000 in
set_option maxRecDepth 100000 in
theorem laws_zzFits2.calls (k : Nat) (A0 : Option Addr) (c0 : Nat) (l0 : List (S59)) (r : Bool) (w : World) (hr0 : Kd.C k59 w A0 l0.length l0) (hc0 : l0.length ≤ c0) (h : laws_zzFits2.f k l0 = some r) :
    Calls Tryz.prog 29 #[.slice A0 l0.length c0] w fun e w' => e = .returned (.bool r) ∧ Below w.heap.size w w' := by
  have hu59 := Tryz.underlying59
  have HR0 := Aside0.mk hr0
  have HC0 := Aside0.mk hc0
  clear hr0 hc0
  have HB := Aside0.mk (Below.refl w.heap.size w)
  have H : (if (l0.length : Int) > 2147483647 then (some false) else (laws_zzFits2.l0 k l0 (l0.length : Int) 0)) = some r := h
  clear h
  by_cases c2 : (l0.length : Int) > 2147483647
  · rw [if_pos c2] at H
    have c2b0 : decide (2147483647 < (l0.length : Int)) = true := decide_eq_true c2
    have c2b1 : decide (2147483647 < l0.length) = true := decide_eq_true (by omega)
    clear c2
    obtain rfl := Option.some.inj H
    go_enter Tryz.func29, Tryz.ntmps29
    go_wp2
    go_ret
    exact ⟨by first | rfl | (simp [errW_none, errW_some] <;> rfl) | (simp [*, errW_none, errW_some] <;> rfl), by repeat (first | (with_reducible first | exact HB.out | apply below_alloc | apply pw_below_drewN | apply below_drew1) | exact HB.out)⟩
  · rw [if_neg c2] at H
    have c2b0 : decide (2147483647 < (l0.length : Int)) = false := decide_eq_false c2
    have c2b1 : decide (2147483647 < l0.length) = false := decide_eq_false (by omega)
    clear c2
    have H' := Aside0.mk H
    clear H
    go_enter Tryz.func29, Tryz.ntmps29
    go_wp2
    go_loopg [10] k (fun kq v10 w' => ∃ (x10_1 : Int), v10 = .int .i64 x10_1 ∧ Aside0 (laws_zzFits2.l0 kq l0 (l0.length : Int) x10_1 = some r) ∧ Aside0 (kq ≤ k) ∧ Aside0 (Below w.heap.size w w'))
    case atStart => exact ⟨(0), (by first | rfl | (simp; done) | (simp [*]; done)), H', ⟨Nat.le_refl _⟩, ⟨by repeat (first | (with_reducible first | exact HB.out | apply below_alloc | apply pw_below_drewN | apply below_drew1) | exact HB.out)⟩⟩
    case round =>
      clear H'
      try clear c2
      try clear c2b0
      try clear c2b1
      try clear p2
      obtain ⟨x10_1, rfl, HA, HK1, HB⟩ := hrel
      cases gk with
      | zero => exact absurd HA.out (by simp [laws_zzFits2.l0])
      | succ k1 =>
        have H := HA.out
        clear HA
        simp only [laws_zzFits2.l0] at H
        by_cases c3 : x10_1 < (l0.length : Int)
        · rw [if_pos c3] at H
          have c3b0 : decide (x10_1 < (l0.length : Int)) = true := decide_eq_true c3
          clear c3
          by_cases c4 : 0 ≤ x10_1
          · rw [if_pos c4] at H
            have c4b0 : decide (0 ≤ x10_1) = true := decide_eq_true c4
            clear c4
            by_cases c5 : x10_1 < (l0.length : Int)
            · rw [if_pos c5] at H
              have c5b0 : decide (x10_1 < (l0.length : Int)) = true := decide_eq_true c5
              clear c5
              replace H := Option.bind_eq_some_iff.mp H
              obtain ⟨t104, A60, H⟩ := H
              replace H : (if t104 = true then (laws_zzFits2.l0 k1 l0 (l0.length : Int) (wrap64 (x10_1 + 1))) else (some false)) = some r := H
              have A6 := Aside0.mk A60
              clear A60
              by_cases c7 : t104 = true
              · subst c7
                have H1 : (laws_zzFits2.l0 k1 l0 (l0.length : Int) (wrap64 (x10_1 + 1))) = some r := by rw [if_pos rfl] at H; exact H
                clear H
                have H := H1
                clear H1
                have H' := Aside0.mk H
                clear H
                have p102 : 0 ≤ (x10_1 : Int) := of_decide_eq_true (by first | (with_reducible assumption) | assumption)
                have q102 : x10_1 < (l0.length : Int) := of_decide_eq_true (by first | (with_reducible assumption) | assumption)
                obtain ⟨ad102, e102, hx102_0, hx102_1⟩ := at_T59 HR0.out x10_1 p102 q102
                cases e102
                replace hx102_0 := (HB.out.cell (World.block_lt_of_cell? w _ hx102_0)).trans hx102_0
                replace hx102_1 := (HB.out.cell (World.block_lt_of_cell? w _ hx102_1)).trans hx102_1
                replace p102 := eq_true p102
                replace q102 := eq_true q102
                go_wp2_with (first | ((with_reducible refine gate_dst (N := 4) rfl ?_); refine box_event ?hg (N := 4) ?hd (cs := #[.string (⟨#[]⟩ : ByteArray), .int .i64 0]) (t := 59) ?hr ?_; (case hd => rfl); (case hg => rfl); (case hr => first | (go_simp; done) | (go_simp; rfl)); intro gb103 hg w8 hbox hb; have n0_ := Aside0.mk (below_step (by repeat (first | (with_reducible first | exact HB.out | apply below_alloc | apply pw_below_drewN | apply below_drew1) | exact HB.out)) hb); have n1_ := Aside0.mk (hbox); have n2_ := Aside0.mk ((by rw [hg]; exact (below_size (by repeat (first | (with_reducible first | exact HB.out | apply below_alloc | apply pw_below_drewN | apply below_drew1) | exact HB.out))) : w.heap.size ≤ gb103)); have n3_ := Aside0.mk ((by rw [hg]; exact (below_size (by repeat (first | (with_reducible first | exact HB.out | apply below_alloc | apply pw_below_drewN | apply below_drew1) | exact HB.out))) : w.heap.size ≤ gb103)); clear HB; have HB := n0_; have BK103 := n1_; have GW103 := n2_; have GE103 := n3_; clear n0_ n1_ n2_ n3_; clear hb hbox hg; have hcz9_0 : w8.cell? ⟨gb103, 0, none⟩ = some (.string (⟨#[]⟩ : ByteArray)) := (blk_cell BK103.out 0).trans rfl; have hcz9_1 : w8.cell? ⟨gb103, 1, none⟩ = some (.int .i64 0) := (blk_cell BK103.out 1).trans rfl; have hfz9_0 := blk_frozen BK103.out 0; have hfz9_1 := blk_frozen BK103.out 1) | ((with_reducible refine gate_callee (f := 49) rfl ?_); refine goesL_ (some 15) rfl rfl Tryz.func49 (by kernel_rfl) rfl #[.agg #[.string ((rd_T59 l0 x10_1).f0), .int .i64 ((rd_T59 l0 x10_1).f1)]] rfl (by (try simp only [List.map_toArray, List.map_cons, List.map_nil]); first | done | rfl | (simp only [List.length_drop, List.length_take]; rfl)) ?_; (with_reducible refine (laws_zzFits3.calls ((rd_T59 l0 x10_1).f0) ((rd_T59 l0 x10_1).f1) true _ A6.out).mono ?_); rintro e w10 ⟨rfl, hb⟩; refine ⟨_, rfl, ?_⟩; have n0_ := Aside0.mk (blk_below (g := gb103) (o := .cells #[.string ((rd_T59 l0 x10_1).f0), .int .i64 ((rd_T59 l0 x10_1).f1)] 59 (0, 0)) (by (with_reducible repeat (first | refine blk_drewN ?_ _ | refine blk_drew ?_ | refine blk_alloc ?_ _)); refine blk_put (cs := #[.string ((rd_T59 l0 x10_1).f0), .int .i64 0]) ?_ 1 _ rfl; (with_reducible repeat (first | refine blk_drewN ?_ _ | refine blk_drew ?_ | refine blk_alloc ?_ _)); refine blk_put (cs := #[.string (⟨#[]⟩ : ByteArray), .int .i64 0]) ?_ 0 _ rfl; (with_reducible repeat (first | refine blk_drewN ?_ _ | refine blk_drew ?_ | refine blk_alloc ?_ _)); exact BK103.out) hb); have n1_ := Aside0.mk (below_step (by repeat (first | (with_reducible first | exact HB.out | apply below_alloc | apply pw_below_drewN | apply below_drew1 | refine below_set ?_ GE103.out) | exact HB.out)) hb); clear BK103; clear HB; have BK103 := n0_; have HB := n1_; clear n0_ n1_; (try clear hb); (try clear hb2); (try clear hk); (try clear hi)))
                go_roundg k1
                case measure => have := HK1.out; omega
                case rel => exact ⟨(wrap64 (x10_1 + 1)), (by first | rfl | (simp; done) | (simp [*]; done)), H', ⟨by have := HK1.out; omega⟩, ⟨by repeat (first | (with_reducible first | exact HB.out | apply below_alloc | apply pw_below_drewN | apply below_drew1 | refine below_set ?_ GE103.out) | exact HB.out)⟩⟩
              · replace c7 := Bool.eq_false_iff.mpr c7
                subst c7
                have H1 : (some false) = some r := by rw [if_neg (show ¬ (false = true) by decide)] at H; exact H
                clear H
                have H := H1
                clear H1
                obtain rfl := Option.some.inj H
                have p102 : 0 ≤ (x10_1 : Int) := of_decide_eq_true (by first | (with_reducible assumption) | assumption)
                have q102 : x10_1 < (l0.length : Int) := of_decide_eq_true (by first | (with_reducible assumption) | assumption)
                obtain ⟨ad102, e102, hx102_0, hx102_1⟩ := at_T59 HR0.out x10_1 p102 q102
                cases e102
                replace hx102_0 := (HB.out.cell (World.block_lt_of_cell? w _ hx102_0)).trans hx102_0
                replace hx102_1 := (HB.out.cell (World.block_lt_of_cell? w _ hx102_1)).trans hx102_1
                replace p102 := eq_true p102
                replace q102 := eq_true q102
                go_wp2_with (first | ((with_reducible refine gate_dst (N := 4) rfl ?_); refine box_event ?hg (N := 4) ?hd (cs := #[.string (⟨#[]⟩ : ByteArray), .int .i64 0]) (t := 59) ?hr ?_; (case hd => rfl); (case hg => rfl); (case hr => first | (go_simp; done) | (go_simp; rfl)); intro gb103 hg w11 hbox hb; have n0_ := Aside0.mk (below_step (by repeat (first | (with_reducible first | exact HB.out | apply below_alloc | apply pw_below_drewN | apply below_drew1) | exact HB.out)) hb); have n1_ := Aside0.mk (hbox); have n2_ := Aside0.mk ((by rw [hg]; exact (below_size (by repeat (first | (with_reducible first | exact HB.out | apply below_alloc | apply pw_below_drewN | apply below_drew1) | exact HB.out))) : w.heap.size ≤ gb103)); have n3_ := Aside0.mk ((by rw [hg]; exact (below_size (by repeat (first | (with_reducible first | exact HB.out | apply below_alloc | apply pw_below_drewN | apply below_drew1) | exact HB.out))) : w.heap.size ≤ gb103)); clear HB; have HB := n0_; have BK103 := n1_; have GW103 := n2_; have GE103 := n3_; clear n0_ n1_ n2_ n3_; clear hb hbox hg; have hcz12_0 : w11.cell? ⟨gb103, 0, none⟩ = some (.string (⟨#[]⟩ : ByteArray)) := (blk_cell BK103.out 0).trans rfl; have hcz12_1 : w11.cell? ⟨gb103, 1, none⟩ = some (.int .i64 0) := (blk_cell BK103.out 1).trans rfl; have hfz12_0 := blk_frozen BK103.out 0; have hfz12_1 := blk_frozen BK103.out 1) | ((with_reducible refine gate_callee (f := 49) rfl ?_); refine goesL_ (some 15) rfl rfl Tryz.func49 (by kernel_rfl) rfl #[.agg #[.string ((rd_T59 l0 x10_1).f0), .int .i64 ((rd_T59 l0 x10_1).f1)]] rfl (by (try simp only [List.map_toArray, List.map_cons, List.map_nil]); first | done | rfl | (simp only [List.length_drop, List.length_take]; rfl)) ?_; (with_reducible refine (laws_zzFits3.calls ((rd_T59 l0 x10_1).f0) ((rd_T59 l0 x10_1).f1) false _ A6.out).mono ?_); rintro e w13 ⟨rfl, hb⟩; refine ⟨_, rfl, ?_⟩; have n0_ := Aside0.mk (blk_below (g := gb103) (o := .cells #[.string ((rd_T59 l0 x10_1).f0), .int .i64 ((rd_T59 l0 x10_1).f1)] 59 (0, 0)) (by (with_reducible repeat (first | refine blk_drewN ?_ _ | refine blk_drew ?_ | refine blk_alloc ?_ _)); refine blk_put (cs := #[.string ((rd_T59 l0 x10_1).f0), .int .i64 0]) ?_ 1 _ rfl; (with_reducible repeat (first | refine blk_drewN ?_ _ | refine blk_drew ?_ | refine blk_alloc ?_ _)); refine blk_put (cs := #[.string (⟨#[]⟩ : ByteArray), .int .i64 0]) ?_ 0 _ rfl; (with_reducible repeat (first | refine blk_drewN ?_ _ | refine blk_drew ?_ | refine blk_alloc ?_ _)); exact BK103.out) hb); have n1_ := Aside0.mk (below_step (by repeat (first | (with_reducible first | exact HB.out | apply below_alloc | apply pw_below_drewN | apply below_drew1 | refine below_set ?_ GE103.out) | exact HB.out)) hb); clear BK103; clear HB; have BK103 := n0_; have HB := n1_; clear n0_ n1_; (try clear hb); (try clear hb2); (try clear hk); (try clear hi)))
                go_ret
                exact ⟨by first | rfl | (simp [errW_none, errW_some] <;> rfl) | (simp [*, errW_none, errW_some] <;> rfl), by repeat (first | (with_reducible first | exact HB.out | apply below_alloc | apply pw_below_drewN | apply below_drew1 | refine below_set ?_ GE103.out) | exact HB.out)⟩
            · rw [if_neg c5] at H
              exact absurd H (by simp)
          · rw [if_neg c4] at H
            exact absurd H (by simp)
        · rw [if_neg c3] at H
          have c3b0 : decide (x10_1 < (l0.length : Int)) = false := decide_eq_false c3
          clear c3
          obtain rfl := Option.some.inj H
          go_wp2
          go_ret
          exact ⟨by first | rfl | (simp [errW_none, errW_some] <;> rfl) | (simp [*, errW_none, errW_some] <;> rfl), by repeat (first | (with_reducible first | exact HB.out | apply below_alloc | apply pw_below_drewN | apply below_drew1) | exact HB.out)⟩

/-! ### laws_zzFits5: function 50 -/
def laws_zzFits5.f (a0_0 : ByteArray) (a0_1 : ByteArray) : Option (Bool) := if (a0_0.size : Int) > 2147483647 then (some false) else (if (a0_1.size : Int) > 2147483647 then (some false) else (some true))
set_option maxHeartbeats 8000000 in
set_option maxRecDepth 100000 in
theorem laws_zzFits5.calls (a0_0 : ByteArray) (a0_1 : ByteArray) (r : Bool) (w : World) (h : laws_zzFits5.f a0_0 a0_1 = some r) :
    Calls Tryz.prog 50 #[.agg #[.string a0_0, .string a0_1]] w fun e w' => e = .returned (.bool r) ∧ Below w.heap.size w w' := by
  have hu62 := Tryz.underlying62
  have HB := Aside0.mk (Below.refl w.heap.size w)
  have H : (if (a0_0.size : Int) > 2147483647 then (some false) else (if (a0_1.size : Int) > 2147483647 then (some false) else (some true))) = some r := h
  clear h
  by_cases c2 : (a0_0.size : Int) > 2147483647
  · rw [if_pos c2] at H
    have c2b0 : decide (2147483647 < (a0_0.size : Int)) = true := decide_eq_true c2
    have c2b1 : decide (2147483647 < a0_0.size) = true := decide_eq_true (by omega)
    clear c2
    obtain rfl := Option.some.inj H
    go_enter Tryz.func50, Tryz.ntmps50
    go_wp2_with (first | ((with_reducible refine gate_dst (N := 1) rfl ?_); refine box_event ?hg (N := 1) ?hd (cs := #[.string a0_0, .string a0_1]) (t := 62) ?hr ?_; (case hd => rfl); (case hg => rfl); (case hr => first | (go_simp; done) | (go_simp; rfl)); intro gb105 hg w3 hbox hb; have n0_ := Aside0.mk (below_step (by repeat (first | (with_reducible first | exact HB.out | apply below_alloc | apply pw_below_drewN | apply below_drew1) | exact HB.out)) hb); have n1_ := Aside0.mk (hbox); have n2_ := Aside0.mk ((by rw [hg]; exact (below_size (by repeat (first | (with_reducible first | exact HB.out | apply below_alloc | apply pw_below_drewN | apply below_drew1) | exact HB.out))) : w.heap.size ≤ gb105)); have n3_ := Aside0.mk ((by rw [hg]; exact (below_size (by repeat (first | (with_reducible first | exact HB.out | apply below_alloc | apply pw_below_drewN | apply below_drew1) | exact HB.out))) : w.heap.size ≤ gb105)); clear HB; have HB := n0_; have BK105 := n1_; have GW105 := n2_; have GE105 := n3_; clear n0_ n1_ n2_ n3_; clear hb hbox hg; have hcz4_0 : w3.cell? ⟨gb105, 0, none⟩ = some (.string a0_0) := (blk_cell BK105.out 0).trans rfl; have hcz4_1 : w3.cell? ⟨gb105, 1, none⟩ = some (.string a0_1) := (blk_cell BK105.out 1).trans rfl; have hfz4_0 := blk_frozen BK105.out 0; have hfz4_1 := blk_frozen BK105.out 1))
    go_ret
    exact ⟨by first | rfl | (simp [errW_none, errW_some] <;> rfl) | (simp [*, errW_none, errW_some] <;> rfl), by repeat (first | (with_reducible first | exact HB.out | apply below_alloc | apply pw_below_drewN | apply below_drew1 | refine below_set ?_ GE105.out) | exact HB.out)⟩
  · rw [if_neg c2] at H
    have c2b0 : decide (2147483647 < (a0_0.size : Int)) = false := decide_eq_false c2
    have c2b1 : decide (2147483647 < a0_0.size) = false := decide_eq_false (by omega)
    clear c2
    by_cases c5 : (a0_1.size : Int) > 2147483647
    · rw [if_pos c5] at H
      have c5b0 : decide (2147483647 < (a0_1.size : Int)) = true := decide_eq_true c5
      have c5b1 : decide (2147483647 < a0_1.size) = true := decide_eq_true (by omega)
      clear c5
      obtain rfl := Option.some.inj H
      go_enter Tryz.func50, Tryz.ntmps50
      go_wp2_with (first | ((with_reducible refine gate_dst (N := 1) rfl ?_); refine box_event ?hg (N := 1) ?hd (cs := #[.string a0_0, .string a0_1]) (t := 62) ?hr ?_; (case hd => rfl); (case hg => rfl); (case hr => first | (go_simp; done) | (go_simp; rfl)); intro gb105 hg w6 hbox hb; have n0_ := Aside0.mk (below_step (by repeat (first | (with_reducible first | exact HB.out | apply below_alloc | apply pw_below_drewN | apply below_drew1) | exact HB.out)) hb); have n1_ := Aside0.mk (hbox); have n2_ := Aside0.mk ((by rw [hg]; exact (below_size (by repeat (first | (with_reducible first | exact HB.out | apply below_alloc | apply pw_below_drewN | apply below_drew1) | exact HB.out))) : w.heap.size ≤ gb105)); have n3_ := Aside0.mk ((by rw [hg]; exact (below_size (by repeat (first | (with_reducible first | exact HB.out | apply below_alloc | apply pw_below_drewN | apply below_drew1) | exact HB.out))) : w.heap.size ≤ gb105)); clear HB; have HB := n0_; have BK105 := n1_; have GW105 := n2_; have GE105 := n3_; clear n0_ n1_ n2_ n3_; clear hb hbox hg; have hcz7_0 : w6.cell? ⟨gb105, 0, none⟩ = some (.string a0_0) := (blk_cell BK105.out 0).trans rfl; have hcz7_1 : w6.cell? ⟨gb105, 1, none⟩ = some (.string a0_1) := (blk_cell BK105.out 1).trans rfl; have hfz7_0 := blk_frozen BK105.out 0; have hfz7_1 := blk_frozen BK105.out 1))
      go_ret
      exact ⟨by first | rfl | (simp [errW_none, errW_some] <;> rfl) | (simp [*, errW_none, errW_some] <;> rfl), by repeat (first | (with_reducible first | exact HB.out | apply below_alloc | apply pw_below_drewN | apply below_drew1 | refine below_set ?_ GE105.out) | exact HB.out)⟩
    · rw [if_neg c5] at H
      have c5b0 : decide (2147483647 < (a0_1.size : Int)) = false := decide_eq_false c5
      have c5b1 : decide (2147483647 < a0_1.size) = false := decide_eq_false (by omega)
      clear c5
      obtain rfl := Option.some.inj H
      go_enter Tryz.func50, Tryz.ntmps50
      go_wp2_with (first | ((with_reducible refine gate_dst (N := 1) rfl ?_); refine box_event ?hg (N := 1) ?hd (cs := #[.string a0_0, .string a0_1]) (t := 62) ?hr ?_; (case hd => rfl); (case hg => rfl); (case hr => first | (go_simp; done) | (go_simp; rfl)); intro gb105 hg w8 hbox hb; have n0_ := Aside0.mk (below_step (by repeat (first | (with_reducible first | exact HB.out | apply below_alloc | apply pw_below_drewN | apply below_drew1) | exact HB.out)) hb); have n1_ := Aside0.mk (hbox); have n2_ := Aside0.mk ((by rw [hg]; exact (below_size (by repeat (first | (with_reducible first | exact HB.out | apply below_alloc | apply pw_below_drewN | apply below_drew1) | exact HB.out))) : w.heap.size ≤ gb105)); have n3_ := Aside0.mk ((by rw [hg]; exact (below_size (by repeat (first | (with_reducible first | exact HB.out | apply below_alloc | apply pw_below_drewN | apply below_drew1) | exact HB.out))) : w.heap.size ≤ gb105)); clear HB; have HB := n0_; have BK105 := n1_; have GW105 := n2_; have GE105 := n3_; clear n0_ n1_ n2_ n3_; clear hb hbox hg; have hcz9_0 : w8.cell? ⟨gb105, 0, none⟩ = some (.string a0_0) := (blk_cell BK105.out 0).trans rfl; have hcz9_1 : w8.cell? ⟨gb105, 1, none⟩ = some (.string a0_1) := (blk_cell BK105.out 1).trans rfl; have hfz9_0 := blk_frozen BK105.out 0; have hfz9_1 := blk_frozen BK105.out 1))
      go_ret
      exact ⟨by first | rfl | (simp [errW_none, errW_some] <;> rfl) | (simp [*, errW_none, errW_some] <;> rfl), by repeat (first | (with_reducible first | exact HB.out | apply below_alloc | apply pw_below_drewN | apply below_drew1 | refine below_set ?_ GE105.out) | exact HB.out)⟩

/-! ### laws_zzFits4: function 30 -/
def laws_zzFits4.l0 : Nat → List (S62) → Int → Int → Option (Bool)
  | 0, _, _, _ => none
  | k + 1, x8, x9, x10 => if x10 < x9 then (if 0 ≤ x10 then (if x10 < (x8.length : Int) then ((laws_zzFits5.f ((rd_T62 x8 x10).f0) ((rd_T62 x8 x10).f1)).bind fun t108 => (if t108 = true then (laws_zzFits4.l0 k x8 x9 (wrap64 (x10 + 1))) else (some false))) else (none)) else (none)) else (some true)
def laws_zzFits4.f (k : Nat) (l0 : List (S62)) : Option (Bool) := if (l0.length : Int) > 2147483647 then (some false) else (laws_zzFits4.l0 k l0 (l0.length : Int) 0)
theorem laws_zzFits4.mono_l : ∀ k, (∀ y0 y1 y2, LeO (laws_zzFits4.l0 k y0 y1 y2) (laws_zzFits4.l0 (k + 1) y0 y1 y2))
  | 0 => fun _ _ _ r h => by simp [laws_zzFits4.l0] at h
  | k + 1 => by
    have ih0 := laws_zzFits4.mono_l k
    · intro y0 y1 y2
      unfold laws_zzFits4.l0
      repeat' first
      | (with_reducible exact ih0 _ _ _)
      | (with_reducible exact LeO.refl _)
      | (with_reducible exact LeO.none _)
      | (with_reducible refine LeO.ite ?_ ?_)
      | (with_reducible refine LeO.bind ?_ (fun _ => ?_))
      | exact ih0 _ _ _
      | exact LeO.none _
      | refine LeO.ite ?_ ?_
      | refine LeO.bind ?_ (fun _ => ?_)
theorem laws_zzFits4.mono : ∀ a0 k, LeO (laws_zzFits4.f k a0) (laws_zzFits4.f (k + 1) a0) := by
  intro a0 k
  have ih0 := laws_zzFits4.mono_l k
  unfold laws_zzFits4.f
  repeat' first
      | (with_reducible exact ih0 _ _ _)
      | (with_reducible exact LeO.refl _)
      | (with_reducible exact LeO.none _)
      | (with_reducible refine LeO.ite ?_ ?_)
      | (with_reducible refine LeO.bind ?_ (fun _ => ?_))
      | exact ih0 _ _ _
      | exact LeO.none _
      | refine LeO.ite ?_ ?_
      | refine LeO.bind ?_ (fun _ => ?_)
set_option maxHeartbeats 8000000 in
set_option maxRecDepth 100000 in
theorem laws_zzFits4.calls (k : Nat) (A0 : Option Addr) (c0 : Nat) (l0 : List (S62)) (r : Bool) (w : World) (hr0 : Kd.C k62 w A0 l0.length l0) (hc0 : l0.length ≤ c0) (h : laws_zzFits4.f k l0 = some r) :
    Calls Tryz.prog 30 #[.slice A0 l0.length c0] w fun e w' => e = .returned (.bool r) ∧ Below w.heap.size w w' := by
  have hu62 := Tryz.underlying62
  have HR0 := Aside0.mk hr0
  have HC0 := Aside0.mk hc0
  clear hr0 hc0
  have HB := Aside0.mk (Below.refl w.heap.size w)
  have H : (if (l0.length : Int) > 2147483647 then (some false) else (laws_zzFits4.l0 k l0 (l0.length : Int) 0)) = some r := h
  clear h
  by_cases c2 : (l0.length : Int) > 2147483647
  · rw [if_pos c2] at H
    have c2b0 : decide (2147483647 < (l0.length : Int)) = true := decide_eq_true c2
    have c2b1 : decide (2147483647 < l0.length) = true := decide_eq_true (by omega)
    clear c2
    obtain rfl := Option.some.inj H
    go_enter Tryz.func30, Tryz.ntmps30
    go_wp2
    go_ret
    exact ⟨by first | rfl | (simp [errW_none, errW_some] <;> rfl) | (simp [*, errW_none, errW_some] <;> rfl), by repeat (first | (with_reducible first | exact HB.out | apply below_alloc | apply pw_below_drewN | apply below_drew1) | exact HB.out)⟩
  · rw [if_neg c2] at H
    have c2b0 : decide (2147483647 < (l0.length : Int)) = false := decide_eq_false c2
    have c2b1 : decide (2147483647 < l0.length) = false := decide_eq_false (by omega)
    clear c2
    have H' := Aside0.mk H
    clear H
    go_enter Tryz.func30, Tryz.ntmps30
    go_wp2
    go_loopg [10] k (fun kq v10 w' => ∃ (x10_1 : Int), v10 = .int .i64 x10_1 ∧ Aside0 (laws_zzFits4.l0 kq l0 (l0.length : Int) x10_1 = some r) ∧ Aside0 (kq ≤ k) ∧ Aside0 (Below w.heap.size w w'))
    case atStart => exact ⟨(0), (by first | rfl | (simp; done) | (simp [*]; done)), H', ⟨Nat.le_refl _⟩, ⟨by repeat (first | (with_reducible first | exact HB.out | apply below_alloc | apply pw_below_drewN | apply below_drew1) | exact HB.out)⟩⟩
    case round =>
      clear H'
      try clear c2
      try clear c2b0
      try clear c2b1
      try clear p2
      obtain ⟨x10_1, rfl, HA, HK1, HB⟩ := hrel
      cases gk with
      | zero => exact absurd HA.out (by simp [laws_zzFits4.l0])
      | succ k1 =>
        have H := HA.out
        clear HA
        simp only [laws_zzFits4.l0] at H
        by_cases c3 : x10_1 < (l0.length : Int)
        · rw [if_pos c3] at H
          have c3b0 : decide (x10_1 < (l0.length : Int)) = true := decide_eq_true c3
          clear c3
          by_cases c4 : 0 ≤ x10_1
          · rw [if_pos c4] at H
            have c4b0 : decide (0 ≤ x10_1) = true := decide_eq_true c4
            clear c4
            by_cases c5 : x10_1 < (l0.length : Int)
            · rw [if_pos c5] at H
              have c5b0 : decide (x10_1 < (l0.length : Int)) = true := decide_eq_true c5
              clear c5
              replace H := Option.bind_eq_some_iff.mp H
              obtain ⟨t108, A60, H⟩ := H
              replace H : (if t108 = true then (laws_zzFits4.l0 k1 l0 (l0.length : Int) (wrap64 (x10_1 + 1))) else (some false)) = some r := H
              have A6 := Aside0.mk A60
              clear A60
              by_cases c7 : t108 = true
              · subst c7
                have H1 : (laws_zzFits4.l0 k1 l0 (l0.length : Int) (wrap64 (x10_1 + 1))) = some r := by rw [if_pos rfl] at H; exact H
                clear H
                have H := H1
                clear H1
                have H' := Aside0.mk H
                clear H
                have p106 : 0 ≤ (x10_1 : Int) := of_decide_eq_true (by first | (with_reducible assumption) | assumption)
                have q106 : x10_1 < (l0.length : Int) := of_decide_eq_true (by first | (with_reducible assumption) | assumption)
                obtain ⟨ad106, e106, hx106_0, hx106_1⟩ := at_T62 HR0.out x10_1 p106 q106
                cases e106
                replace hx106_0 := (HB.out.cell (World.block_lt_of_cell? w _ hx106_0)).trans hx106_0
                replace hx106_1 := (HB.out.cell (World.block_lt_of_cell? w _ hx106_1)).trans hx106_1
                replace p106 := eq_true p106
                replace q106 := eq_true q106
                go_wp2_with (first | ((with_reducible refine gate_dst (N := 4) rfl ?_); refine box_event ?hg (N := 4) ?hd (cs := #[.string (⟨#[]⟩ : ByteArray), .string (⟨#[]⟩ : ByteArray)]) (t := 62) ?hr ?_; (case hd => rfl); (case hg => rfl); (case hr => first | (go_simp; done) | (go_simp; rfl)); intro gb107 hg w8 hbox hb; have n0_ := Aside0.mk (below_step (by repeat (first | (with_reducible first | exact HB.out | apply below_alloc | apply pw_below_drewN | apply below_drew1) | exact HB.out)) hb); have n1_ := Aside0.mk (hbox); have n2_ := Aside0.mk ((by rw [hg]; exact (below_size (by repeat (first | (with_reducible first | exact HB.out | apply below_alloc | apply pw_below_drewN | apply below_drew1) | exact HB.out))) : w.heap.size ≤ gb107)); have n3_ := Aside0.mk ((by rw [hg]; exact (below_size (by repeat (first | (with_reducible first | exact HB.out | apply below_alloc | apply pw_below_drewN | apply below_drew1) | exact HB.out))) : w.heap.size ≤ gb107)); clear HB; have HB := n0_; have BK107 := n1_; have GW107 := n2_; have GE107 := n3_; clear n0_ n1_ n2_ n3_; clear hb hbox hg; have hcz9_0 : w8.cell? ⟨gb107, 0, none⟩ = some (.string (⟨#[]⟩ : ByteArray)) := (blk_cell BK107.out 0).trans rfl; have hcz9_1 : w8.cell? ⟨gb107, 1, none⟩ = some (.string (⟨#[]⟩ : ByteArray)) := (blk_cell BK107.out 1).trans rfl; have hfz9_0 := blk_frozen BK107.out 0; have hfz9_1 := blk_frozen BK107.out 1) | ((with_reducible refine gate_callee (f := 50) rfl ?_); refine goesL_ (some 15) rfl rfl Tryz.func50 (by kernel_rfl) rfl #[.agg #[.string ((rd_T62 l0 x10_1).f0), .string ((rd_T62 l0 x10_1).f1)]] rfl (by (try simp only [List.map_toArray, List.map_cons, List.map_nil]); first | done | rfl | (simp only [List.length_drop, List.length_take]; rfl)) ?_; (with_reducible refine (laws_zzFits5.calls ((rd_T62 l0 x10_1).f0) ((rd_T62 l0 x10_1).f1) true _ A6.out).mono ?_); rintro e w10 ⟨rfl, hb⟩; refine ⟨_, rfl, ?_⟩; have n0_ := Aside0.mk (blk_below (g := gb107) (o := .cells #[.string ((rd_T62 l0 x10_1).f0), .string ((rd_T62 l0 x10_1).f1)] 62 (0, 0)) (by (with_reducible repeat (first | refine blk_drewN ?_ _ | refine blk_drew ?_ | refine blk_alloc ?_ _)); refine blk_put (cs := #[.string ((rd_T62 l0 x10_1).f0), .string (⟨#[]⟩ : ByteArray)]) ?_ 1 _ rfl; (with_reducible repeat (first | refine blk_drewN ?_ _ | refine blk_drew ?_ | refine blk_alloc ?_ _)); refine blk_put (cs := #[.string (⟨#[]⟩ : ByteArray), .string (⟨#[]⟩ : ByteArray)]) ?_ 0 _ rfl; (with_reducible repeat (first | refine blk_drewN ?_ _ | refine blk_drew ?_ | refine blk_alloc ?_ _)); exact BK107.out) hb); have n1_ := Aside0.mk (below_step (by repeat (first | (with_reducible first | exact HB.out | apply below_alloc | apply pw_below_drewN | apply below_drew1 | refine below_set ?_ GE107.out) | exact HB.out)) hb); clear BK107; clear HB; have BK107 := n0_; have HB := n1_; clear n0_ n1_; (try clear hb); (try clear hb2); (try clear hk); (try clear hi)))
                go_roundg k1
                case measure => have := HK1.out; omega
                case rel => exact ⟨(wrap64 (x10_1 + 1)), (by first | rfl | (simp; done) | (simp [*]; done)), H', ⟨by have := HK1.out; omega⟩, ⟨by repeat (first | (with_reducible first | exact HB.out | apply below_alloc | apply pw_below_drewN | apply below_drew1 | refine below_set ?_ GE107.out) | exact HB.out)⟩⟩
              · replace c7 := Bool.eq_false_iff.mpr c7
                subst c7
                have H1 : (some false) = some r := by rw [if_neg (show ¬ (false = true) by decide)] at H; exact H
                clear H
                have H := H1
                clear H1
                obtain rfl := Option.some.inj H
                have p106 : 0 ≤ (x10_1 : Int) := of_decide_eq_true (by first | (with_reducible assumption) | assumption)
                have q106 : x10_1 < (l0.length : Int) := of_decide_eq_true (by first | (with_reducible assumption) | assumption)
                obtain ⟨ad106, e106, hx106_0, hx106_1⟩ := at_T62 HR0.out x10_1 p106 q106
                cases e106
                replace hx106_0 := (HB.out.cell (World.block_lt_of_cell? w _ hx106_0)).trans hx106_0
                replace hx106_1 := (HB.out.cell (World.block_lt_of_cell? w _ hx106_1)).trans hx106_1
                replace p106 := eq_true p106
                replace q106 := eq_true q106
                go_wp2_with (first | ((with_reducible refine gate_dst (N := 4) rfl ?_); refine box_event ?hg (N := 4) ?hd (cs := #[.string (⟨#[]⟩ : ByteArray), .string (⟨#[]⟩ : ByteArray)]) (t := 62) ?hr ?_; (case hd => rfl); (case hg => rfl); (case hr => first | (go_simp; done) | (go_simp; rfl)); intro gb107 hg w11 hbox hb; have n0_ := Aside0.mk (below_step (by repeat (first | (with_reducible first | exact HB.out | apply below_alloc | apply pw_below_drewN | apply below_drew1) | exact HB.out)) hb); have n1_ := Aside0.mk (hbox); have n2_ := Aside0.mk ((by rw [hg]; exact (below_size (by repeat (first | (with_reducible first | exact HB.out | apply below_alloc | apply pw_below_drewN | apply below_drew1) | exact HB.out))) : w.heap.size ≤ gb107)); have n3_ := Aside0.mk ((by rw [hg]; exact (below_size (by repeat (first | (with_reducible first | exact HB.out | apply below_alloc | apply pw_below_drewN | apply below_drew1) | exact HB.out))) : w.heap.size ≤ gb107)); clear HB; have HB := n0_; have BK107 := n1_; have GW107 := n2_; have GE107 := n3_; clear n0_ n1_ n2_ n3_; clear hb hbox hg; have hcz12_0 : w11.cell? ⟨gb107, 0, none⟩ = some (.string (⟨#[]⟩ : ByteArray)) := (blk_cell BK107.out 0).trans rfl; have hcz12_1 : w11.cell? ⟨gb107, 1, none⟩ = some (.string (⟨#[]⟩ : ByteArray)) := (blk_cell BK107.out 1).trans rfl; have hfz12_0 := blk_frozen BK107.out 0; have hfz12_1 := blk_frozen BK107.out 1) | ((with_reducible refine gate_callee (f := 50) rfl ?_); refine goesL_ (some 15) rfl rfl Tryz.func50 (by kernel_rfl) rfl #[.agg #[.string ((rd_T62 l0 x10_1).f0), .string ((rd_T62 l0 x10_1).f1)]] rfl (by (try simp only [List.map_toArray, List.map_cons, List.map_nil]); first | done | rfl | (simp only [List.length_drop, List.length_take]; rfl)) ?_; (with_reducible refine (laws_zzFits5.calls ((rd_T62 l0 x10_1).f0) ((rd_T62 l0 x10_1).f1) false _ A6.out).mono ?_); rintro e w13 ⟨rfl, hb⟩; refine ⟨_, rfl, ?_⟩; have n0_ := Aside0.mk (blk_below (g := gb107) (o := .cells #[.string ((rd_T62 l0 x10_1).f0), .string ((rd_T62 l0 x10_1).f1)] 62 (0, 0)) (by (with_reducible repeat (first | refine blk_drewN ?_ _ | refine blk_drew ?_ | refine blk_alloc ?_ _)); refine blk_put (cs := #[.string ((rd_T62 l0 x10_1).f0), .string (⟨#[]⟩ : ByteArray)]) ?_ 1 _ rfl; (with_reducible repeat (first | refine blk_drewN ?_ _ | refine blk_drew ?_ | refine blk_alloc ?_ _)); refine blk_put (cs := #[.string (⟨#[]⟩ : ByteArray), .string (⟨#[]⟩ : ByteArray)]) ?_ 0 _ rfl; (with_reducible repeat (first | refine blk_drewN ?_ _ | refine blk_drew ?_ | refine blk_alloc ?_ _)); exact BK107.out) hb); have n1_ := Aside0.mk (below_step (by repeat (first | (with_reducible first | exact HB.out | apply below_alloc | apply pw_below_drewN | apply below_drew1 | refine below_set ?_ GE107.out) | exact HB.out)) hb); clear BK107; clear HB; have BK107 := n0_; have HB := n1_; clear n0_ n1_; (try clear hb); (try clear hb2); (try clear hk); (try clear hi)))
                go_ret
                exact ⟨by first | rfl | (simp [errW_none, errW_some] <;> rfl) | (simp [*, errW_none, errW_some] <;> rfl), by repeat (first | (with_reducible first | exact HB.out | apply below_alloc | apply pw_below_drewN | apply below_drew1 | refine below_set ?_ GE107.out) | exact HB.out)⟩
            · rw [if_neg c5] at H
              exact absurd H (by simp)
          · rw [if_neg c4] at H
            exact absurd H (by simp)
        · rw [if_neg c3] at H
          have c3b0 : decide (x10_1 < (l0.length : Int)) = false := decide_eq_false c3
          clear c3
          obtain rfl := Option.some.inj H
          go_wp2
          go_ret
          exact ⟨by first | rfl | (simp [errW_none, errW_some] <;> rfl) | (simp [*, errW_none, errW_some] <;> rfl), by repeat (first | (with_reducible first | exact HB.out | apply below_alloc | apply pw_below_drewN | apply below_drew1) | exact HB.out)⟩

/-! ### laws_zzFits1: function 11 -/
def laws_zzFits1.f (k : Nat) (a0_0 : Int) (a0_1 : Int) (a0_2 : Int) (a0_3 : ByteArray) (a0_4 : Int) (a0_5 : Int) (a0_6 : ByteArray) (a0_7 : Int) (l0_8 : List (S59)) (l0_9 : List (S62)) : Option (Bool) := if (a0_3.size : Int) > 2147483647 then (some false) else (if (a0_6.size : Int) > 2147483647 then (some false) else ((laws_zzFits2.f k l0_8).bind fun t110 => (if t110 = true then ((laws_zzFits4.f k l0_9).bind fun t111 => (if t111 = true then (some true) else (some false))) else (some false))))
theorem laws_zzFits1.mono : ∀ a0 a1 a2 a3 a4 a5 a6 a7 a8 a9 k, LeO (laws_zzFits1.f k a0 a1 a2 a3 a4 a5 a6 a7 a8 a9) (laws_zzFits1.f (k + 1) a0 a1 a2 a3 a4 a5 a6 a7 a8 a9) := by
  intro a0 a1 a2 a3 a4 a5 a6 a7 a8 a9 k
  unfold laws_zzFits1.f
  repeat' first
      | (with_reducible exact laws_zzFits2.mono _ _)
      | (with_reducible exact laws_zzFits4.mono _ _)
      | (with_reducible exact LeO.refl _)
      | (with_reducible exact LeO.none _)
      | (with_reducible refine LeO.ite ?_ ?_)
      | (with_reducible refine LeO.bind ?_ (fun _ => ?_))
      | exact laws_zzFits2.mono _ _
      | exact laws_zzFits4.mono _ _
      | exact LeO.none _
      | refine LeO.ite ?_ ?_
      | refine LeO.bind ?_ (fun _ => ?_)
set_option maxHeartbeats 8000000 in
set_option maxRecDepth 100000 in
theorem laws_zzFits1.calls (k : Nat) (a0_0 : Int) (a0_1 : Int) (a0_2 : Int) (a0_3 : ByteArray) (a0_4 : Int) (a0_5 : Int) (a0_6 : ByteArray) (a0_7 : Int) (A0_8 : Option Addr) (c0_8 : Nat) (l0_8 : List (S59)) (A0_9 : Option Addr) (c0_9 : Nat) (l0_9 : List (S62)) (r : Bool) (w : World) (hr0_8 : Kd.C k59 w A0_8 l0_8.length l0_8) (hc0_8 : l0_8.length ≤ c0_8) (hr0_9 : Kd.C k62 w A0_9 l0_9.length l0_9) (hc0_9 : l0_9.length ≤ c0_9) (h : laws_zzFits1.f k a0_0 a0_1 a0_2 a0_3 a0_4 a0_5 a0_6 a0_7 l0_8 l0_9 = some r) :
    Calls Tryz.prog 11 #[.agg #[.int .i64 a0_0, .int .i64 a0_1, .int .i64 a0_2, .string a0_3, .int .i64 a0_4, .int .u32 a0_5, .string a0_6, .int .i64 a0_7, .slice A0_8 l0_8.length c0_8, .slice A0_9 l0_9.length c0_9]] w fun e w' => e = .returned (.bool r) ∧ Below w.heap.size w w' := by
  have hu26 := Tryz.underlying26
  have HR0_8 := Aside0.mk hr0_8
  have HC0_8 := Aside0.mk hc0_8
  clear hr0_8 hc0_8
  have HR0_9 := Aside0.mk hr0_9
  have HC0_9 := Aside0.mk hc0_9
  clear hr0_9 hc0_9
  have HB := Aside0.mk (Below.refl w.heap.size w)
  have H : (if (a0_3.size : Int) > 2147483647 then (some false) else (if (a0_6.size : Int) > 2147483647 then (some false) else ((laws_zzFits2.f k l0_8).bind fun t110 => (if t110 = true then ((laws_zzFits4.f k l0_9).bind fun t111 => (if t111 = true then (some true) else (some false))) else (some false))))) = some r := h
  clear h
  by_cases c2 : (a0_3.size : Int) > 2147483647
  · rw [if_pos c2] at H
    have c2b0 : decide (2147483647 < (a0_3.size : Int)) = true := decide_eq_true c2
    have c2b1 : decide (2147483647 < a0_3.size) = true := decide_eq_true (by omega)
    clear c2
    obtain rfl := Option.some.inj H
    go_enter Tryz.func11, Tryz.ntmps11
    go_wp2_with (first | ((with_reducible refine gate_dst (N := 1) rfl ?_); refine box_event ?hg (N := 1) ?hd (cs := #[.int .i64 a0_0, .int .i64 a0_1, .int .i64 a0_2, .string a0_3, .int .i64 a0_4, .int .u32 a0_5, .string a0_6, .int .i64 a0_7, .slice A0_8 l0_8.length c0_8, .slice A0_9 l0_9.length c0_9]) (t := 26) ?hr ?_; (case hd => rfl); (case hg => rfl); (case hr => first | (go_simp; done) | (go_simp; rfl)); intro gb109 hg w3 hbox hb; have n0_ := Aside0.mk (below_step (by repeat (first | (with_reducible first | exact HB.out | apply below_alloc | apply pw_below_drewN | apply below_drew1) | exact HB.out)) hb); have n1_ := Aside0.mk (hbox); have n2_ := Aside0.mk ((by rw [hg]; exact (below_size (by repeat (first | (with_reducible first | exact HB.out | apply below_alloc | apply pw_below_drewN | apply below_drew1) | exact HB.out))) : w.heap.size ≤ gb109)); have n3_ := Aside0.mk ((by rw [hg]; exact (below_size (by repeat (first | (with_reducible first | exact HB.out | apply below_alloc | apply pw_below_drewN | apply below_drew1) | exact HB.out))) : w.heap.size ≤ gb109)); clear HB; have HB := n0_; have BK109 := n1_; have GW109 := n2_; have GE109 := n3_; clear n0_ n1_ n2_ n3_; clear hb hbox hg; have hcz4_0 : w3.cell? ⟨gb109, 0, none⟩ = some (.int .i64 a0_0) := (blk_cell BK109.out 0).trans rfl; have hcz4_1 : w3.cell? ⟨gb109, 1, none⟩ = some (.int .i64 a0_1) := (blk_cell BK109.out 1).trans rfl; have hcz4_2 : w3.cell? ⟨gb109, 2, none⟩ = some (.int .i64 a0_2) := (blk_cell BK109.out 2).trans rfl; have hcz4_3 : w3.cell? ⟨gb109, 3, none⟩ = some (.string a0_3) := (blk_cell BK109.out 3).trans rfl; have hcz4_4 : w3.cell? ⟨gb109, 4, none⟩ = some (.int .i64 a0_4) := (blk_cell BK109.out 4).trans rfl; have hcz4_5 : w3.cell? ⟨gb109, 5, none⟩ = some (.int .u32 a0_5) := (blk_cell BK109.out 5).trans rfl; have hcz4_6 : w3.cell? ⟨gb109, 6, none⟩ = some (.string a0_6) := (blk_cell BK109.out 6).trans rfl; have hcz4_7 : w3.cell? ⟨gb109, 7, none⟩ = some (.int .i64 a0_7) := (blk_cell BK109.out 7).trans rfl; have hcz4_8 : w3.cell? ⟨gb109, 8, none⟩ = some (.slice A0_8 l0_8.length c0_8) := (blk_cell BK109.out 8).trans rfl; have hcz4_9 : w3.cell? ⟨gb109, 9, none⟩ = some (.slice A0_9 l0_9.length c0_9) := (blk_cell BK109.out 9).trans rfl; have hfz4_0 := blk_frozen BK109.out 0; have hfz4_1 := blk_frozen BK109.out 1; have hfz4_2 := blk_frozen BK109.out 2; have hfz4_3 := blk_frozen BK109.out 3; have hfz4_4 := blk_frozen BK109.out 4; have hfz4_5 := blk_frozen BK109.out 5; have hfz4_6 := blk_frozen BK109.out 6; have hfz4_7 := blk_frozen BK109.out 7; have hfz4_8 := blk_frozen BK109.out 8; have hfz4_9 := blk_frozen BK109.out 9))
    go_ret
    exact ⟨by first | rfl | (simp [errW_none, errW_some] <;> rfl) | (simp [*, errW_none, errW_some] <;> rfl), by repeat (first | (with_reducible first | exact HB.out | apply below_alloc | apply pw_below_drewN | apply below_drew1 | refine below_set ?_ GE109.out) | exact HB.out)⟩
  · rw [if_neg c2] at H
    have c2b0 : decide (2147483647 < (a0_3.size : Int)) = false := decide_eq_false c2
    have c2b1 : decide (2147483647 < a0_3.size) = false := decide_eq_false (by omega)
    clear c2
    by_cases c5 : (a0_6.size : Int) > 2147483647
    · rw [if_pos c5] at H
      have c5b0 : decide (2147483647 < (a0_6.size : Int)) = true := decide_eq_true c5
      have c5b1 : decide (2147483647 < a0_6.size) = true := decide_eq_true (by omega)
      clear c5
      obtain rfl := Option.some.inj H
      go_enter Tryz.func11, Tryz.ntmps11
      go_wp2_with (first | ((with_reducible refine gate_dst (N := 1) rfl ?_); refine box_event ?hg (N := 1) ?hd (cs := #[.int .i64 a0_0, .int .i64 a0_1, .int .i64 a0_2, .string a0_3, .int .i64 a0_4, .int .u32 a0_5, .string a0_6, .int .i64 a0_7, .slice A0_8 l0_8.length c0_8, .slice A0_9 l0_9.length c0_9]) (t := 26) ?hr ?_; (case hd => rfl); (case hg => rfl); (case hr => first | (go_simp; done) | (go_simp; rfl)); intro gb109 hg w6 hbox hb; have n0_ := Aside0.mk (below_step (by repeat (first | (with_reducible first | exact HB.out | apply below_alloc | apply pw_below_drewN | apply below_drew1) | exact HB.out)) hb); have n1_ := Aside0.mk (hbox); have n2_ := Aside0.mk ((by rw [hg]; exact (below_size (by repeat (first | (with_reducible first | exact HB.out | apply below_alloc | apply pw_below_drewN | apply below_drew1) | exact HB.out))) : w.heap.size ≤ gb109)); have n3_ := Aside0.mk ((by rw [hg]; exact (below_size (by repeat (first | (with_reducible first | exact HB.out | apply below_alloc | apply pw_below_drewN | apply below_drew1) | exact HB.out))) : w.heap.size ≤ gb109)); clear HB; have HB := n0_; have BK109 := n1_; have GW109 := n2_; have GE109 := n3_; clear n0_ n1_ n2_ n3_; clear hb hbox hg; have hcz7_0 : w6.cell? ⟨gb109, 0, none⟩ = some (.int .i64 a0_0) := (blk_cell BK109.out 0).trans rfl; have hcz7_1 : w6.cell? ⟨gb109, 1, none⟩ = some (.int .i64 a0_1) := (blk_cell BK109.out 1).trans rfl; have hcz7_2 : w6.cell? ⟨gb109, 2, none⟩ = some (.int .i64 a0_2) := (blk_cell BK109.out 2).trans rfl; have hcz7_3 : w6.cell? ⟨gb109, 3, none⟩ = some (.string a0_3) := (blk_cell BK109.out 3).trans rfl; have hcz7_4 : w6.cell? ⟨gb109, 4, none⟩ = some (.int .i64 a0_4) := (blk_cell BK109.out 4).trans rfl; have hcz7_5 : w6.cell? ⟨gb109, 5, none⟩ = some (.int .u32 a0_5) := (blk_cell BK109.out 5).trans rfl; have hcz7_6 : w6.cell? ⟨gb109, 6, none⟩ = some (.string a0_6) := (blk_cell BK109.out 6).trans rfl; have hcz7_7 : w6.cell? ⟨gb109, 7, none⟩ = some (.int .i64 a0_7) := (blk_cell BK109.out 7).trans rfl; have hcz7_8 : w6.cell? ⟨gb109, 8, none⟩ = some (.slice A0_8 l0_8.length c0_8) := (blk_cell BK109.out 8).trans rfl; have hcz7_9 : w6.cell? ⟨gb109, 9, none⟩ = some (.slice A0_9 l0_9.length c0_9) := (blk_cell BK109.out 9).trans rfl; have hfz7_0 := blk_frozen BK109.out 0; have hfz7_1 := blk_frozen BK109.out 1; have hfz7_2 := blk_frozen BK109.out 2; have hfz7_3 := blk_frozen BK109.out 3; have hfz7_4 := blk_frozen BK109.out 4; have hfz7_5 := blk_frozen BK109.out 5; have hfz7_6 := blk_frozen BK109.out 6; have hfz7_7 := blk_frozen BK109.out 7; have hfz7_8 := blk_frozen BK109.out 8; have hfz7_9 := blk_frozen BK109.out 9))
      go_ret
      exact ⟨by first | rfl | (simp [errW_none, errW_some] <;> rfl) | (simp [*, errW_none, errW_some] <;> rfl), by repeat (first | (with_reducible first | exact HB.out | apply below_alloc | apply pw_below_drewN | apply below_drew1 | refine below_set ?_ GE109.out) | exact HB.out)⟩
    · rw [if_neg c5] at H
      have c5b0 : decide (2147483647 < (a0_6.size : Int)) = false := decide_eq_false c5
      have c5b1 : decide (2147483647 < a0_6.size) = false := decide_eq_false (by omega)
      clear c5
      replace H := Option.bind_eq_some_iff.mp H
      obtain ⟨t110, A80, H⟩ := H
      replace H : (if t110 = true then ((laws_zzFits4.f k l0_9).bind fun t111 => (if t111 = true then (some true) else (some false))) else (some false)) = some r := H
      have A8 := Aside0.mk A80
      clear A80
      by_cases c9 : t110 = true
      · subst c9
        have H1 : ((laws_zzFits4.f k l0_9).bind fun t111 => (if t111 = true then (some true) else (some false))) = some r := by rw [if_pos rfl] at H; exact H
        clear H
        have H := H1
        clear H1
        replace H := Option.bind_eq_some_iff.mp H
        obtain ⟨t111, A100, H⟩ := H
        replace H : (if t111 = true then (some true) else (some false)) = some r := H
        have A10 := Aside0.mk A100
        clear A100
        by_cases c11 : t111 = true
        · subst c11
          have H1 : (some true) = some r := by rw [if_pos rfl] at H; exact H
          clear H
          have H := H1
          clear H1
          obtain rfl := Option.some.inj H
          go_enter Tryz.func11, Tryz.ntmps11
          go_wp2_with (first | ((with_reducible refine gate_dst (N := 1) rfl ?_); refine box_event ?hg (N := 1) ?hd (cs := #[.int .i64 a0_0, .int .i64 a0_1, .int .i64 a0_2, .string a0_3, .int .i64 a0_4, .int .u32 a0_5, .string a0_6, .int .i64 a0_7, .slice A0_8 l0_8.length c0_8, .slice A0_9 l0_9.length c0_9]) (t := 26) ?hr ?_; (case hd => rfl); (case hg => rfl); (case hr => first | (go_simp; done) | (go_simp; rfl)); intro gb109 hg w12 hbox hb; have n0_ := Aside0.mk (below_step (by repeat (first | (with_reducible first | exact HB.out | apply below_alloc | apply pw_below_drewN | apply below_drew1) | exact HB.out)) hb); have n1_ := Aside0.mk (hbox); have n2_ := Aside0.mk ((by rw [hg]; exact (below_size (by repeat (first | (with_reducible first | exact HB.out | apply below_alloc | apply pw_below_drewN | apply below_drew1) | exact HB.out))) : w.heap.size ≤ gb109)); have n3_ := Aside0.mk ((by rw [hg]; exact (below_size (by repeat (first | (with_reducible first | exact HB.out | apply below_alloc | apply pw_below_drewN | apply below_drew1) | exact HB.out))) : w.heap.size ≤ gb109)); clear HB; have HB := n0_; have BK109 := n1_; have GW109 := n2_; have GE109 := n3_; clear n0_ n1_ n2_ n3_; clear hb hbox hg; have hcz13_0 : w12.cell? ⟨gb109, 0, none⟩ = some (.int .i64 a0_0) := (blk_cell BK109.out 0).trans rfl; have hcz13_1 : w12.cell? ⟨gb109, 1, none⟩ = some (.int .i64 a0_1) := (blk_cell BK109.out 1).trans rfl; have hcz13_2 : w12.cell? ⟨gb109, 2, none⟩ = some (.int .i64 a0_2) := (blk_cell BK109.out 2).trans rfl; have hcz13_3 : w12.cell? ⟨gb109, 3, none⟩ = some (.string a0_3) := (blk_cell BK109.out 3).trans rfl; have hcz13_4 : w12.cell? ⟨gb109, 4, none⟩ = some (.int .i64 a0_4) := (blk_cell BK109.out 4).trans rfl; have hcz13_5 : w12.cell? ⟨gb109, 5, none⟩ = some (.int .u32 a0_5) := (blk_cell BK109.out 5).trans rfl; have hcz13_6 : w12.cell? ⟨gb109, 6, none⟩ = some (.string a0_6) := (blk_cell BK109.out 6).trans rfl; have hcz13_7 : w12.cell? ⟨gb109, 7, none⟩ = some (.int .i64 a0_7) := (blk_cell BK109.out 7).trans rfl; have hcz13_8 : w12.cell? ⟨gb109, 8, none⟩ = some (.slice A0_8 l0_8.length c0_8) := (blk_cell BK109.out 8).trans rfl; have hcz13_9 : w12.cell? ⟨gb109, 9, none⟩ = some (.slice A0_9 l0_9.length c0_9) := (blk_cell BK109.out 9).trans rfl; have hfz13_0 := blk_frozen BK109.out 0; have hfz13_1 := blk_frozen BK109.out 1; have hfz13_2 := blk_frozen BK109.out 2; have hfz13_3 := blk_frozen BK109.out 3; have hfz13_4 := blk_frozen BK109.out 4; have hfz13_5 := blk_frozen BK109.out 5; have hfz13_6 := blk_frozen BK109.out 6; have hfz13_7 := blk_frozen BK109.out 7; have hfz13_8 := blk_frozen BK109.out 8; have hfz13_9 := blk_frozen BK109.out 9) | ((with_reducible refine gate_callee (f := 29) rfl ?_); refine goesL_ (some 13) rfl rfl Tryz.func29 (by kernel_rfl) rfl #[.slice A0_8 l0_8.length c0_8] rfl (by (try simp only [List.map_toArray, List.map_cons, List.map_nil]); first | done | rfl | (simp only [List.length_drop, List.length_take]; rfl)) ?_; (with_reducible refine (laws_zzFits2.calls k _ _ l0_8 true _ ?side1 ?side2 A8.out).mono ?_); (case side1 => repeat (first | exact (Kd.C_below HR0_8.out HB.out) | (with_reducible refine Kd.C_alloc ?_ _) | (with_reducible refine Kd.C_drewN ?_ _) | (with_reducible refine Kd.C_drew ?_))); (case side2 => exact HC0_8.out); rintro e w14 ⟨rfl, hb⟩; refine ⟨_, rfl, ?_⟩; have n0_ := Aside0.mk (blk_below (g := gb109) (o := .cells #[.int .i64 a0_0, .int .i64 a0_1, .int .i64 a0_2, .string a0_3, .int .i64 a0_4, .int .u32 a0_5, .string a0_6, .int .i64 a0_7, .slice A0_8 l0_8.length c0_8, .slice A0_9 l0_9.length c0_9] 26 (0, 0)) (by (with_reducible repeat (first | refine blk_drewN ?_ _ | refine blk_drew ?_ | refine blk_alloc ?_ _)); exact BK109.out) hb); have n1_ := Aside0.mk (below_step (by repeat (first | (with_reducible first | exact HB.out | apply below_alloc | apply pw_below_drewN | apply below_drew1 | refine below_set ?_ GE109.out) | exact HB.out)) hb); clear BK109; clear HB; have BK109 := n0_; have HB := n1_; clear n0_ n1_; (try clear hb); (try clear hb2); (try clear hk); (try clear hi); have hcz15_0 : w14.cell? ⟨gb109, 0, none⟩ = some (.int .i64 a0_0) := (blk_cell BK109.out 0).trans rfl; have hcz15_1 : w14.cell? ⟨gb109, 1, none⟩ = some (.int .i64 a0_1) := (blk_cell BK109.out 1).trans rfl; have hcz15_2 : w14.cell? ⟨gb109, 2, none⟩ = some (.int .i64 a0_2) := (blk_cell BK109.out 2).trans rfl; have hcz15_3 : w14.cell? ⟨gb109, 3, none⟩ = some (.string a0_3) := (blk_cell BK109.out 3).trans rfl; have hcz15_4 : w14.cell? ⟨gb109, 4, none⟩ = some (.int .i64 a0_4) := (blk_cell BK109.out 4).trans rfl; have hcz15_5 : w14.cell? ⟨gb109, 5, none⟩ = some (.int .u32 a0_5) := (blk_cell BK109.out 5).trans rfl; have hcz15_6 : w14.cell? ⟨gb109, 6, none⟩ = some (.string a0_6) := (blk_cell BK109.out 6).trans rfl; have hcz15_7 : w14.cell? ⟨gb109, 7, none⟩ = some (.int .i64 a0_7) := (blk_cell BK109.out 7).trans rfl; have hcz15_8 : w14.cell? ⟨gb109, 8, none⟩ = some (.slice A0_8 l0_8.length c0_8) := (blk_cell BK109.out 8).trans rfl; have hcz15_9 : w14.cell? ⟨gb109, 9, none⟩ = some (.slice A0_9 l0_9.length c0_9) := (blk_cell BK109.out 9).trans rfl; have hfz15_0 := blk_frozen BK109.out 0; have hfz15_1 := blk_frozen BK109.out 1; have hfz15_2 := blk_frozen BK109.out 2; have hfz15_3 := blk_frozen BK109.out 3; have hfz15_4 := blk_frozen BK109.out 4; have hfz15_5 := blk_frozen BK109.out 5; have hfz15_6 := blk_frozen BK109.out 6; have hfz15_7 := blk_frozen BK109.out 7; have hfz15_8 := blk_frozen BK109.out 8; have hfz15_9 := blk_frozen BK109.out 9) | ((with_reducible refine gate_callee (f := 30) rfl ?_); refine goesL_ (some 17) rfl rfl Tryz.func30 (by kernel_rfl) rfl #[.slice A0_9 l0_9.length c0_9] rfl (by (try simp only [List.map_toArray, List.map_cons, List.map_nil]); first | done | rfl | (simp only [List.length_drop, List.length_take]; rfl)) ?_; (with_reducible refine (laws_zzFits4.calls k _ _ l0_9 true _ ?side1 ?side2 A10.out).mono ?_); (case side1 => repeat (first | exact (Kd.C_below HR0_9.out HB.out) | (with_reducible refine Kd.C_alloc ?_ _) | (with_reducible refine Kd.C_drewN ?_ _) | (with_reducible refine Kd.C_drew ?_))); (case side2 => exact HC0_9.out); rintro e w16 ⟨rfl, hb⟩; refine ⟨_, rfl, ?_⟩; have n0_ := Aside0.mk (blk_below (g := gb109) (o := .cells #[.int .i64 a0_0, .int .i64 a0_1, .int .i64 a0_2, .string a0_3, .int .i64 a0_4, .int .u32 a0_5, .string a0_6, .int .i64 a0_7, .slice A0_8 l0_8.length c0_8, .slice A0_9 l0_9.length c0_9] 26 (0, 0)) (by (with_reducible repeat (first | refine blk_drewN ?_ _ | refine blk_drew ?_ | refine blk_alloc ?_ _)); exact BK109.out) hb); have n1_ := Aside0.mk (below_step (by repeat (first | (with_reducible first | exact HB.out | apply below_alloc | apply pw_below_drewN | apply below_drew1 | refine below_set ?_ GE109.out) | exact HB.out)) hb); clear BK109; clear HB; have BK109 := n0_; have HB := n1_; clear n0_ n1_; (try clear hb); (try clear hb2); (try clear hk); (try clear hi)))
          go_ret
          exact ⟨by first | rfl | (simp [errW_none, errW_some] <;> rfl) | (simp [*, errW_none, errW_some] <;> rfl), by repeat (first | (with_reducible first | exact HB.out | apply below_alloc | apply pw_below_drewN | apply below_drew1 | refine below_set ?_ GE109.out) | exact HB.out)⟩
        · replace c11 := Bool.eq_false_iff.mpr c11
          subst c11
          have H1 : (some false) = some r := by rw [if_neg (show ¬ (false = true) by decide)] at H; exact H
          clear H
          have H := H1
          clear H1
          obtain rfl := Option.some.inj H
          go_enter Tryz.func11, Tryz.ntmps11
          go_wp2_with (first | ((with_reducible refine gate_dst (N := 1) rfl ?_); refine box_event ?hg (N := 1) ?hd (cs := #[.int .i64 a0_0, .int .i64 a0_1, .int .i64 a0_2, .string a0_3, .int .i64 a0_4, .int .u32 a0_5, .string a0_6, .int .i64 a0_7, .slice A0_8 l0_8.length c0_8, .slice A0_9 l0_9.length c0_9]) (t := 26) ?hr ?_; (case hd => rfl); (case hg => rfl); (case hr => first | (go_simp; done) | (go_simp; rfl)); intro gb109 hg w17 hbox hb; have n0_ := Aside0.mk (below_step (by repeat (first | (with_reducible first | exact HB.out | apply below_alloc | apply pw_below_drewN | apply below_drew1) | exact HB.out)) hb); have n1_ := Aside0.mk (hbox); have n2_ := Aside0.mk ((by rw [hg]; exact (below_size (by repeat (first | (with_reducible first | exact HB.out | apply below_alloc | apply pw_below_drewN | apply below_drew1) | exact HB.out))) : w.heap.size ≤ gb109)); have n3_ := Aside0.mk ((by rw [hg]; exact (below_size (by repeat (first | (with_reducible first | exact HB.out | apply below_alloc | apply pw_below_drewN | apply below_drew1) | exact HB.out))) : w.heap.size ≤ gb109)); clear HB; have HB := n0_; have BK109 := n1_; have GW109 := n2_; have GE109 := n3_; clear n0_ n1_ n2_ n3_; clear hb hbox hg; have hcz18_0 : w17.cell? ⟨gb109, 0, none⟩ = some (.int .i64 a0_0) := (blk_cell BK109.out 0).trans rfl; have hcz18_1 : w17.cell? ⟨gb109, 1, none⟩ = some (.int .i64 a0_1) := (blk_cell BK109.out 1).trans rfl; have hcz18_2 : w17.cell? ⟨gb109, 2, none⟩ = some (.int .i64 a0_2) := (blk_cell BK109.out 2).trans rfl; have hcz18_3 : w17.cell? ⟨gb109, 3, none⟩ = some (.string a0_3) := (blk_cell BK109.out 3).trans rfl; have hcz18_4 : w17.cell? ⟨gb109, 4, none⟩ = some (.int .i64 a0_4) := (blk_cell BK109.out 4).trans rfl; have hcz18_5 : w17.cell? ⟨gb109, 5, none⟩ = some (.int .u32 a0_5) := (blk_cell BK109.out 5).trans rfl; have hcz18_6 : w17.cell? ⟨gb109, 6, none⟩ = some (.string a0_6) := (blk_cell BK109.out 6).trans rfl; have hcz18_7 : w17.cell? ⟨gb109, 7, none⟩ = some (.int .i64 a0_7) := (blk_cell BK109.out 7).trans rfl; have hcz18_8 : w17.cell? ⟨gb109, 8, none⟩ = some (.slice A0_8 l0_8.length c0_8) := (blk_cell BK109.out 8).trans rfl; have hcz18_9 : w17.cell? ⟨gb109, 9, none⟩ = some (.slice A0_9 l0_9.length c0_9) := (blk_cell BK109.out 9).trans rfl; have hfz18_0 := blk_frozen BK109.out 0; have hfz18_1 := blk_frozen BK109.out 1; have hfz18_2 := blk_frozen BK109.out 2; have hfz18_3 := blk_frozen BK109.out 3; have hfz18_4 := blk_frozen BK109.out 4; have hfz18_5 := blk_frozen BK109.out 5; have hfz18_6 := blk_frozen BK109.out 6; have hfz18_7 := blk_frozen BK109.out 7; have hfz18_8 := blk_frozen BK109.out 8; have hfz18_9 := blk_frozen BK109.out 9) | ((with_reducible refine gate_callee (f := 29) rfl ?_); refine goesL_ (some 13) rfl rfl Tryz.func29 (by kernel_rfl) rfl #[.slice A0_8 l0_8.length c0_8] rfl (by (try simp only [List.map_toArray, List.map_cons, List.map_nil]); first | done | rfl | (simp only [List.length_drop, List.length_take]; rfl)) ?_; (with_reducible refine (laws_zzFits2.calls k _ _ l0_8 true _ ?side1 ?side2 A8.out).mono ?_); (case side1 => repeat (first | exact (Kd.C_below HR0_8.out HB.out) | (with_reducible refine Kd.C_alloc ?_ _) | (with_reducible refine Kd.C_drewN ?_ _) | (with_reducible refine Kd.C_drew ?_))); (case side2 => exact HC0_8.out); rintro e w19 ⟨rfl, hb⟩; refine ⟨_, rfl, ?_⟩; have n0_ := Aside0.mk (blk_below (g := gb109) (o := .cells #[.int .i64 a0_0, .int .i64 a0_1, .int .i64 a0_2, .string a0_3, .int .i64 a0_4, .int .u32 a0_5, .string a0_6, .int .i64 a0_7, .slice A0_8 l0_8.length c0_8, .slice A0_9 l0_9.length c0_9] 26 (0, 0)) (by (with_reducible repeat (first | refine blk_drewN ?_ _ | refine blk_drew ?_ | refine blk_alloc ?_ _)); exact BK109.out) hb); have n1_ := Aside0.mk (below_step (by repeat (first | (with_reducible first | exact HB.out | apply below_alloc | apply pw_below_drewN | apply below_drew1 | refine below_set ?_ GE109.out) | exact HB.out)) hb); clear BK109; clear HB; have BK109 := n0_; have HB := n1_; clear n0_ n1_; (try clear hb); (try clear hb2); (try clear hk); (try clear hi); have hcz20_0 : w19.cell? ⟨gb109, 0, none⟩ = some (.int .i64 a0_0) := (blk_cell BK109.out 0).trans rfl; have hcz20_1 : w19.cell? ⟨gb109, 1, none⟩ = some (.int .i64 a0_1) := (blk_cell BK109.out 1).trans rfl; have hcz20_2 : w19.cell? ⟨gb109, 2, none⟩ = some (.int .i64 a0_2) := (blk_cell BK109.out 2).trans rfl; have hcz20_3 : w19.cell? ⟨gb109, 3, none⟩ = some (.string a0_3) := (blk_cell BK109.out 3).trans rfl; have hcz20_4 : w19.cell? ⟨gb109, 4, none⟩ = some (.int .i64 a0_4) := (blk_cell BK109.out 4).trans rfl; have hcz20_5 : w19.cell? ⟨gb109, 5, none⟩ = some (.int .u32 a0_5) := (blk_cell BK109.out 5).trans rfl; have hcz20_6 : w19.cell? ⟨gb109, 6, none⟩ = some (.string a0_6) := (blk_cell BK109.out 6).trans rfl; have hcz20_7 : w19.cell? ⟨gb109, 7, none⟩ = some (.int .i64 a0_7) := (blk_cell BK109.out 7).trans rfl; have hcz20_8 : w19.cell? ⟨gb109, 8, none⟩ = some (.slice A0_8 l0_8.length c0_8) := (blk_cell BK109.out 8).trans rfl; have hcz20_9 : w19.cell? ⟨gb109, 9, none⟩ = some (.slice A0_9 l0_9.length c0_9) := (blk_cell BK109.out 9).trans rfl; have hfz20_0 := blk_frozen BK109.out 0; have hfz20_1 := blk_frozen BK109.out 1; have hfz20_2 := blk_frozen BK109.out 2; have hfz20_3 := blk_frozen BK109.out 3; have hfz20_4 := blk_frozen BK109.out 4; have hfz20_5 := blk_frozen BK109.out 5; have hfz20_6 := blk_frozen BK109.out 6; have hfz20_7 := blk_frozen BK109.out 7; have hfz20_8 := blk_frozen BK109.out 8; have hfz20_9 := blk_frozen BK109.out 9) | ((with_reducible refine gate_callee (f := 30) rfl ?_); refine goesL_ (some 17) rfl rfl Tryz.func30 (by kernel_rfl) rfl #[.slice A0_9 l0_9.length c0_9] rfl (by (try simp only [List.map_toArray, List.map_cons, List.map_nil]); first | done | rfl | (simp only [List.length_drop, List.length_take]; rfl)) ?_; (with_reducible refine (laws_zzFits4.calls k _ _ l0_9 false _ ?side1 ?side2 A10.out).mono ?_); (case side1 => repeat (first | exact (Kd.C_below HR0_9.out HB.out) | (with_reducible refine Kd.C_alloc ?_ _) | (with_reducible refine Kd.C_drewN ?_ _) | (with_reducible refine Kd.C_drew ?_))); (case side2 => exact HC0_9.out); rintro e w21 ⟨rfl, hb⟩; refine ⟨_, rfl, ?_⟩; have n0_ := Aside0.mk (blk_below (g := gb109) (o := .cells #[.int .i64 a0_0, .int .i64 a0_1, .int .i64 a0_2, .string a0_3, .int .i64 a0_4, .int .u32 a0_5, .string a0_6, .int .i64 a0_7, .slice A0_8 l0_8.length c0_8, .slice A0_9 l0_9.length c0_9] 26 (0, 0)) (by (with_reducible repeat (first | refine blk_drewN ?_ _ | refine blk_drew ?_ | refine blk_alloc ?_ _)); exact BK109.out) hb); have n1_ := Aside0.mk (below_step (by repeat (first | (with_reducible first | exact HB.out | apply below_alloc | apply pw_below_drewN | apply below_drew1 | refine below_set ?_ GE109.out) | exact HB.out)) hb); clear BK109; clear HB; have BK109 := n0_; have HB := n1_; clear n0_ n1_; (try clear hb); (try clear hb2); (try clear hk); (try clear hi)))
          go_ret
          exact ⟨by first | rfl | (simp [errW_none, errW_some] <;> rfl) | (simp [*, errW_none, errW_some] <;> rfl), by repeat (first | (with_reducible first | exact HB.out | apply below_alloc | apply pw_below_drewN | apply below_drew1 | refine below_set ?_ GE109.out) | exact HB.out)⟩
      · replace c9 := Bool.eq_false_iff.mpr c9
        subst c9
        have H1 : (some false) = some r := by rw [if_neg (show ¬ (false = true) by decide)] at H; exact H
        clear H
        have H := H1
        clear H1
        obtain rfl := Option.some.inj H
        go_enter Tryz.func11, Tryz.ntmps11
        go_wp2_with (first | ((with_reducible refine gate_dst (N := 1) rfl ?_); refine box_event ?hg (N := 1) ?hd (cs := #[.int .i64 a0_0, .int .i64 a0_1, .int .i64 a0_2, .string a0_3, .int .i64 a0_4, .int .u32 a0_5, .string a0_6, .int .i64 a0_7, .slice A0_8 l0_8.length c0_8, .slice A0_9 l0_9.length c0_9]) (t := 26) ?hr ?_; (case hd => rfl); (case hg => rfl); (case hr => first | (go_simp; done) | (go_simp; rfl)); intro gb109 hg w22 hbox hb; have n0_ := Aside0.mk (below_step (by repeat (first | (with_reducible first | exact HB.out | apply below_alloc | apply pw_below_drewN | apply below_drew1) | exact HB.out)) hb); have n1_ := Aside0.mk (hbox); have n2_ := Aside0.mk ((by rw [hg]; exact (below_size (by repeat (first | (with_reducible first | exact HB.out | apply below_alloc | apply pw_below_drewN | apply below_drew1) | exact HB.out))) : w.heap.size ≤ gb109)); have n3_ := Aside0.mk ((by rw [hg]; exact (below_size (by repeat (first | (with_reducible first | exact HB.out | apply below_alloc | apply pw_below_drewN | apply below_drew1) | exact HB.out))) : w.heap.size ≤ gb109)); clear HB; have HB := n0_; have BK109 := n1_; have GW109 := n2_; have GE109 := n3_; clear n0_ n1_ n2_ n3_; clear hb hbox hg; have hcz23_0 : w22.cell? ⟨gb109, 0, none⟩ = some (.int .i64 a0_0) := (blk_cell BK109.out 0).trans rfl; have hcz23_1 : w22.cell? ⟨gb109, 1, none⟩ = some (.int .i64 a0_1) := (blk_cell BK109.out 1).trans rfl; have hcz23_2 : w22.cell? ⟨gb109, 2, none⟩ = some (.int .i64 a0_2) := (blk_cell BK109.out 2).trans rfl; have hcz23_3 : w22.cell? ⟨gb109, 3, none⟩ = some (.string a0_3) := (blk_cell BK109.out 3).trans rfl; have hcz23_4 : w22.cell? ⟨gb109, 4, none⟩ = some (.int .i64 a0_4) := (blk_cell BK109.out 4).trans rfl; have hcz23_5 : w22.cell? ⟨gb109, 5, none⟩ = some (.int .u32 a0_5) := (blk_cell BK109.out 5).trans rfl; have hcz23_6 : w22.cell? ⟨gb109, 6, none⟩ = some (.string a0_6) := (blk_cell BK109.out 6).trans rfl; have hcz23_7 : w22.cell? ⟨gb109, 7, none⟩ = some (.int .i64 a0_7) := (blk_cell BK109.out 7).trans rfl; have hcz23_8 : w22.cell? ⟨gb109, 8, none⟩ = some (.slice A0_8 l0_8.length c0_8) := (blk_cell BK109.out 8).trans rfl; have hcz23_9 : w22.cell? ⟨gb109, 9, none⟩ = some (.slice A0_9 l0_9.length c0_9) := (blk_cell BK109.out 9).trans rfl; have hfz23_0 := blk_frozen BK109.out 0; have hfz23_1 := blk_frozen BK109.out 1; have hfz23_2 := blk_frozen BK109.out 2; have hfz23_3 := blk_frozen BK109.out 3; have hfz23_4 := blk_frozen BK109.out 4; have hfz23_5 := blk_frozen BK109.out 5; have hfz23_6 := blk_frozen BK109.out 6; have hfz23_7 := blk_frozen BK109.out 7; have hfz23_8 := blk_frozen BK109.out 8; have hfz23_9 := blk_frozen BK109.out 9) | ((with_reducible refine gate_callee (f := 29) rfl ?_); refine goesL_ (some 13) rfl rfl Tryz.func29 (by kernel_rfl) rfl #[.slice A0_8 l0_8.length c0_8] rfl (by (try simp only [List.map_toArray, List.map_cons, List.map_nil]); first | done | rfl | (simp only [List.length_drop, List.length_take]; rfl)) ?_; (with_reducible refine (laws_zzFits2.calls k _ _ l0_8 false _ ?side1 ?side2 A8.out).mono ?_); (case side1 => repeat (first | exact (Kd.C_below HR0_8.out HB.out) | (with_reducible refine Kd.C_alloc ?_ _) | (with_reducible refine Kd.C_drewN ?_ _) | (with_reducible refine Kd.C_drew ?_))); (case side2 => exact HC0_8.out); rintro e w24 ⟨rfl, hb⟩; refine ⟨_, rfl, ?_⟩; have n0_ := Aside0.mk (blk_below (g := gb109) (o := .cells #[.int .i64 a0_0, .int .i64 a0_1, .int .i64 a0_2, .string a0_3, .int .i64 a0_4, .int .u32 a0_5, .string a0_6, .int .i64 a0_7, .slice A0_8 l0_8.length c0_8, .slice A0_9 l0_9.length c0_9] 26 (0, 0)) (by (with_reducible repeat (first | refine blk_drewN ?_ _ | refine blk_drew ?_ | refine blk_alloc ?_ _)); exact BK109.out) hb); have n1_ := Aside0.mk (below_step (by repeat (first | (with_reducible first | exact HB.out | apply below_alloc | apply pw_below_drewN | apply below_drew1 | refine below_set ?_ GE109.out) | exact HB.out)) hb); clear BK109; clear HB; have BK109 := n0_; have HB := n1_; clear n0_ n1_; (try clear hb); (try clear hb2); (try clear hk); (try clear hi)))
        go_ret
        exact ⟨by first | rfl | (simp [errW_none, errW_some] <;> rfl) | (simp [*, errW_none, errW_some] <;> rfl), by repeat (first | (with_reducible first | exact HB.out | apply below_alloc | apply pw_below_drewN | apply below_drew1 | refine below_set ?_ GE109.out) | exact HB.out)⟩

end Go.Proofs.YtmfdbcfpcifmcaaGreatDoor.PFnFormat
