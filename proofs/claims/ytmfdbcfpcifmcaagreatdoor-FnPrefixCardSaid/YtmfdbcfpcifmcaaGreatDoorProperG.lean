/- spec.Proper: the conditions ahead of its two loops hold. (Written by mkproper2.py.) -/
import Derived.Test.YtmfdbcfpcifmcaaGreatDoorMd
namespace Go.Proofs.YtmfdbcfpcifmcaaGreatDoor
open Go.RowKit Go.Proofs.YtmfdbcfpcifmcaaGreatDoorW.PrintWords Go.Proofs.YtmfdbcfpcifmcaaGreatDoor.PFnFormat

set_option maxRecDepth 100000 in
set_option maxHeartbeats 8000000 in
theorem proper_yes (kind net tcp : Int) (found : ByteArray) (hfs : found.size ≤ 2147483647) (comp prio : Int) (addr : ByteArray) (has : addr.size ≤ 2147483647) (port : Int) (A8 A9 : Option Addr) (m8 m9 : Nat) (rels : List S60) (exts : List S63) (w : World) (hn8 : rels.length ≤ 2147483647) (hn9 : exts.length ≤ 2147483647) (hc9 : exts.length ≤ m9) (hs8 : ∀ x ∈ rels, x.f0.size ≤ 2147483647) (hs9 : ∀ x ∈ exts, x.f0.size ≤ 2147483647 ∧ x.f1.size ≤ 2147483647) (h8 : Kd.C k60 w A8 rels.length rels) (h9 : Kd.C k63 w A9 exts.length exts) (q0 : decide (kind < 1) = false) (q1 : decide (kind > 4) = false) (q2 : decide (net < 1) = false) (q3 : decide (net > 4) = false) (q4 : decide (comp < 1) = false) (q5 : decide (comp > 256) = false) (q6 : (prio == 0) = false) (q7 : decide (port < 0) = false) (q8 : decide (port > 65535) = false) (q9 : decide ((rels.length : Int) > 1) = false) (q10 : decide ((exts.length : Int) > 5) = false) (q13 : decide (tcp < 0) = false) (q14 : decide (tcp > 3) = false)
    (hall : ((kind == 1) = true ∧ ((rels.length : Int) == 0) = true ∧ (net == 3 || net == 4) = true ∧ decide (tcp > 0) = true) ∨ ((kind == 1) = true ∧ ((rels.length : Int) == 0) = true ∧ (net == 3 || net == 4) = false ∧ decide (tcp > 0) = false) ∨ ((kind == 1) = false ∧ ((rels.length : Int) == 0) = false ∧ (net == 3 || net == 4) = false ∧ decide (tcp > 0) = false)) :
    Calls Tryz.prog 13 #[.agg #[.int .i64 kind, .int .i64 net, .int .i64 tcp, .string found, .int .i64 comp, .int .u32 prio, .string addr, .int .i64 port, .slice A8 rels.length m8, .slice A9 exts.length m9]] w fun e w' => Says (IsProper kind net tcp found comp prio addr port rels exts) e ∧ Below w.heap.size w w' := by
  have hb := below_al (Below.refl w.heap.size w) (Nat.le_refl _) (.cells #[.int .i64 kind, .int .i64 net, .int .i64 tcp, .string found, .int .i64 comp, .int .u32 prio, .string addr, .int .i64 port, .slice A8 rels.length m8, .slice A9 exts.length m9] 31)
  have hbx := Row.new w 31 #[.int .i64 kind, .int .i64 net, .int .i64 tcp, .string found, .int .i64 comp, .int .u32 prio, .string addr, .int .i64 port, .slice A8 rels.length m8, .slice A9 exts.length m9]
  go_enter Tryz.func13, Tryz.ntmps13
  go_wp2_with fail
  generalize w.alloc (.cells #[.int .i64 kind, .int .i64 net, .int .i64 tcp, .string found, .int .i64 comp, .int .u32 prio, .string addr, .int .i64 port, .slice A8 rels.length m8, .slice A9 exts.length m9] 31) = W at *
  refine (specWord found (by omega) 32 W).mono ?_
  rintro e W1 ⟨⟨b1, rfl, hw1⟩, hb1⟩
  have hgl := hbx.lt
  have hB1 := hb.trans (hb1.mono (Nat.le_of_lt hgl))
  have hbx1 := hbx.below hb1 hgl
  have hgl1 := hbx1.lt
  clear hbx hb hb1
  have y1 : W1.cell? ⟨w.heap.size, 1, none⟩ = some (.int .i64 net) := hbx1.cell 1
  have y4 : W1.cell? ⟨w.heap.size, 4, none⟩ = some (.int .i64 comp) := hbx1.cell 4
  have y5 : W1.cell? ⟨w.heap.size, 5, none⟩ = some (.int .u32 prio) := hbx1.cell 5
  have y6 : W1.cell? ⟨w.heap.size, 6, none⟩ = some (.string addr) := hbx1.cell 6
  have y7 : W1.cell? ⟨w.heap.size, 7, none⟩ = some (.int .i64 port) := hbx1.cell 7
  have y8 : W1.cell? ⟨w.heap.size, 8, none⟩ = some (.slice A8 rels.length m8) := hbx1.cell 8
  have y9 : W1.cell? ⟨w.heap.size, 9, none⟩ = some (.slice A9 exts.length m9) := hbx1.cell 9
  have HB1 := Lib.hid hB1
  have HX1 := Lib.hid hbx1
  clear hB1 hbx1
  rcases Bool.eq_false_or_eq_true b1 with rfl | rfl
  case inr =>
    go_wp2_with fail
    go_ret
    exact ⟨Says.no, HB1.out⟩
  have HW := Lib.hid (hw1 rfl)
  clear hw1
  go_wp2_with fail
  refine (specAddress addr has net W1).mono ?_
  rintro e W2 ⟨⟨b2, rfl, hw2⟩, hb2⟩
  have hB2 := HB1.out.trans (hb2.mono (Nat.le_of_lt hgl1))
  have hbx2 := HX1.out.below hb2 hgl1
  have hgl2 := hbx2.lt
  clear y1 y4 y5 y6 y7 y8 y9 HB1 HX1 hb2
  have y0 : W2.cell? ⟨w.heap.size, 0, none⟩ = some (.int .i64 kind) := hbx2.cell 0
  have y1 : W2.cell? ⟨w.heap.size, 1, none⟩ = some (.int .i64 net) := hbx2.cell 1
  have y2 : W2.cell? ⟨w.heap.size, 2, none⟩ = some (.int .i64 tcp) := hbx2.cell 2
  have y7 : W2.cell? ⟨w.heap.size, 7, none⟩ = some (.int .i64 port) := hbx2.cell 7
  have y8 : W2.cell? ⟨w.heap.size, 8, none⟩ = some (.slice A8 rels.length m8) := hbx2.cell 8
  have y9 : W2.cell? ⟨w.heap.size, 9, none⟩ = some (.slice A9 exts.length m9) := hbx2.cell 9
  have HB2 := Lib.hid hB2
  have HX2 := Lib.hid hbx2
  clear hB2 hbx2
  rcases Bool.eq_false_or_eq_true b2 with rfl | rfl
  case inr =>
    go_wp2_with fail
    go_ret
    exact ⟨Says.no, HB2.out⟩
  have HA := Lib.hid (hw2 rfl)
  clear hw2
  have HF : Hid (1 ≤ kind ∧ kind ≤ 4 ∧ 1 ≤ net ∧ net ≤ 4 ∧ Word found 32 ∧ 1 ≤ comp ∧ comp ≤ 256 ∧ prio ≠ 0 ∧ addrText (decide (¬ (net = 1 ∨ net = 3))) addr ∧ 0 ≤ port ∧ port ≤ 65535 ∧ rels.length ≤ 1 ∧ exts.length ≤ 5) := by
    simp only [decide_eq_false_iff_not, beq_eq_false_iff_ne, ne_eq] at q0 q1 q2 q3 q4 q5 q6 q7 q8 q9 q10
    exact ⟨by omega, by omega, by omega, by omega, HW.out, by omega, by omega, by omega, HA.out, by omega, by omega, by omega, by omega⟩
  have HF3 : Hid ((kind = 1 ↔ rels.length = 0) ∧ 0 ≤ tcp ∧ tcp ≤ 3 ∧ ((net = 3 ∨ net = 4) ↔ 0 < tcp) ∧ ((net = 3 ∨ net = 4) → kind = 1)) := by
    simp only [decide_eq_false_iff_not] at q13 q14
    rcases hall with ⟨k1, k2, q12, q15⟩ | ⟨k1, k2, q12, q15⟩ | ⟨k1, k2, q12, q15⟩
    all_goals simp only [beq_iff_eq, beq_eq_false_iff_ne, ne_eq, Bool.or_eq_true, Bool.or_eq_false_iff, decide_eq_true_eq, decide_eq_false_iff_not] at k1 k2 q12 q15
    all_goals refine ⟨by omega, by omega, by omega, by omega, by omega⟩
  clear HW HA
  have C80 := Lib.hid (Kd.C_below h8 HB2.out)
  have C90 := Lib.hid (Kd.C_below h9 HB2.out)
  clear h8 h9
  go_wp2_with fail
  go_cut [114] from 3 (fun s114 wx => s114 = .bool false ∧ ∃ m, wx = W2.drewN m)
  case first =>
    have k3 : (kind != 1) = !(kind == 1) := rfl
    rcases hall with ⟨k1, k2, q12, q15⟩ | ⟨k1, k2, q12, q15⟩ | ⟨k1, k2, q12, q15⟩
    all_goals
      rw [k1] at k3
      simp only [Bool.not_true, Bool.not_false] at k3
      go_quiet (first | (go_at_call 14; refine Calls.quiet_of_same (specTcpV net _ q12 _)))
      go_wp2_with fail
      go_meet
      exact ⟨rfl, _, rfl⟩
  obtain ⟨rfl, md, hwc⟩ := hcut
  have hB : Below w.heap.size w wc := hwc ▸ below_drewN HB2.out md
  have hX : Row wc w.heap.size 31 #[.int .i64 kind, .int .i64 net, .int .i64 tcp, .string found, .int .i64 comp, .int .u32 prio, .string addr, .int .i64 port, .slice A8 rels.length m8, .slice A9 exts.length m9] := hwc ▸ HX2.out.drewN md
  have C8 := Lib.hid (hwc ▸ Kd.C_drewN C80.out md : Kd.C k60 wc A8 rels.length rels)
  have C9 := Lib.hid (hwc ▸ Kd.C_drewN C90.out md : Kd.C k63 wc A9 exts.length exts)
  clear y0 y1 y2 y7 y8 y9 C80 C90 HX2 HB2 q0 q1 q2 q3 q4 q5 q6 q7 q8 q9 q10 q13 q14 hall hwc hgl hgl1 hgl2
  have hgl := hX.lt
  have HX := Lib.hid hX
  have HB := Lib.hid hB
  have z8 : wc.cell? ⟨w.heap.size, 8, none⟩ = some (.slice A8 rels.length m8) := hX.cell 8
  clear hX hB
  go_wp2_with fail
  clear z8
  go_loopw [118] (fun i wr => ∃ k : Nat, k ≤ rels.length ∧ i = .int .i64 k ∧ Hid (∀ j (h : j < rels.length), j < k → addrText (decide (¬ (net = 1 ∨ net = 3))) rels[j].f0 ∧ 1 ≤ rels[j].f1 ∧ rels[j].f1 ≤ 65535) ∧ Below wc.heap.size wc wr) (fun i _ => rels.length - (intOf i).toNat)
  case atStart => exact ⟨0, Nat.zero_le _, rfl, fun j _ h => absurd h (Nat.not_lt_zero j), Below.refl _ _⟩
  case round =>
    obtain ⟨k, hk, rfl, HR, hbr⟩ := hrel
    have hBr := HB.out.trans (hbr.mono (Nat.le_of_lt hgl))
    have hXr := HX.out.below hbr hgl
    by_cases hlt : k < rels.length
    · obtain ⟨ad, hA, e0, e1⟩ := at_T60 (Kd.C_below C8.out hbr) (k : Int) (by omega) (by omega)
      have hx : rd_T60 rels (k : Int) = rels[k] := by simp [rd_T60, List.getD_eq_getElem?_getD, List.getElem?_eq_getElem hlt]
      rw [hx, Int.toNat_natCast] at e0 e1
      clear hx
      have hmem := hs8 rels[k] (List.getElem_mem hlt)
      have HXk := Lib.hid (show rels[k] = rels[k] from rfl)
      generalize hxe : rels[k] = x at e0 e1 hmem
      clear HXk
      have HXE := Lib.hid hxe
      clear hxe
      subst hA
      have y1 : wr.cell? ⟨w.heap.size, 1, none⟩ = some (.int .i64 net) := hXr.cell 1
      have hgr : w.heap.size < wr.heap.size := hXr.lt
      have HBr := Lib.hid hBr
      have HXr := Lib.hid hXr
      clear hBr hXr
      go_wp2_with fail
      refine (specAddress x.f0 hmem net _).mono ?_
      rintro e w3 ⟨⟨b4, rfl, hw4⟩, hb4⟩
      have hel : Row w3 wr.heap.size 60 #[.string x.f0, .int .i64 x.f1] := (Row.new wr 60 _).below hb4 (by simp)
      have hB3 : Below wc.heap.size wc w3 := (hbr.alloc hbr.size _).trans (hb4.mono (by simp; have := hbr.size; omega))
      have HB3 := Lib.hid hB3
      have HBw := Lib.hid (HB.out.trans (hB3.mono (Nat.le_of_lt hgl)))
      have v1 : w3.cell? ⟨wr.heap.size, 1, none⟩ = some (.int .i64 x.f1) := hel.cell 1
      clear e0 e1 y1 hb4 hel hB3 hbr
      rcases Bool.eq_false_or_eq_true b4 with rfl | rfl
      case inr =>
        go_wp2_with fail
        go_ret
        exact ⟨Says.no, HBw.out⟩
      have HA4 := Lib.hid (hw4 rfl)
      clear hw4
      rcases Bool.eq_false_or_eq_true (decide (x.f1 < 1)) with p0 | p0
      · go_wp2_with fail
        go_ret
        exact ⟨Says.no, HBw.out⟩
      rcases Bool.eq_false_or_eq_true (decide (x.f1 > 65535)) with p1 | p1
      · go_wp2_with fail
        go_ret
        exact ⟨Says.no, HBw.out⟩
      go_wp2_with fail
      have hp0 : 1 ≤ x.f1 := by simp at p0; omega
      have hp1 : x.f1 ≤ 65535 := by simp at p1; omega
      refine ⟨⟨k + 1, hlt, rfl, ?_, HB3.out⟩, by simp [intOf]; omega⟩
      intro j hj hjk
      by_cases hjk2 : j = k
      · subst hjk2
        rw [HXE.out]
        exact ⟨HA4.out, hp0, hp1⟩
      · exact HR.out j hj (by omega)
    · obtain rfl : k = rels.length := by omega
      have HRel := Lib.hid (show ∀ x ∈ rels, addrText (decide (¬ (net = 1 ∨ net = 3))) x.f0 ∧ 1 ≤ x.f1 ∧ x.f1 ≤ 65535 by
        intro x hx
        obtain ⟨j, hj, rfl⟩ := List.mem_iff_getElem.1 hx
        exact HR.out j hj (by omega))
      have y9 : wr.cell? ⟨w.heap.size, 9, none⟩ = some (.slice A9 exts.length m9) := hXr.cell 9
      have C9r := Lib.hid (Kd.C_below C9.out hbr)
      have hgr := hXr.lt
      have HXr := Lib.hid hXr
      have HBr := Lib.hid hBr
      clear hXr hBr hbr HR
      go_wp2_with fail
      clear y9
      go_loopw [142] (fun i w2 => ∃ k : Nat, k ≤ exts.length ∧ i = .int .i64 k ∧ Hid (∀ j (h : j < exts.length), j < k → Word exts[j].f0 20 ∧ Word exts[j].f1 20 ∧ ¬ keyBad exts[j].f0) ∧ Hid (∀ i j (hi : i < exts.length) (_ : j < i), i < k → exts[j].f0 ≠ exts[i].f0) ∧ Below wr.heap.size wr w2) (fun i _ => exts.length - (intOf i).toNat)
      case atStart => exact ⟨0, Nat.zero_le _, rfl, fun j _ h => absurd h (Nat.not_lt_zero j), fun i _ _ _ h => absurd h (Nat.not_lt_zero i), Below.refl _ _⟩
      case round =>
        obtain ⟨n, hn, rfl, HE, HK, hb2⟩ := hrel
        have hB2 := HBr.out.trans (hb2.mono (Nat.le_of_lt hgr))
        have hX2 := HXr.out.below hb2 hgr
        by_cases hlt : n < exts.length
        · obtain ⟨ad, hA, e0, e1⟩ := at_T63 (Kd.C_below C9r.out hb2) (n : Int) (by omega) (by omega)
          have hx : rd_T63 exts (n : Int) = exts[n] := by simp [rd_T63, List.getD_eq_getElem?_getD, List.getElem?_eq_getElem hlt]
          rw [hx, Int.toNat_natCast] at e0 e1
          clear hx
          have hmem := hs9 exts[n] (List.getElem_mem hlt)
          generalize hxe : exts[n] = x at e0 e1 hmem
          have HXE := Lib.hid hxe
          clear hxe
          have CC := Lib.hid (Kd.C_below C9r.out hb2)
          subst hA
          have hgr2 : w.heap.size < wr.heap.size := hX2.lt
          have HX2 := Lib.hid hX2
          have HB2 := Lib.hid hB2
          have hszr : 0 < wr.heap.size := by omega
          clear hX2 hB2
          go_wp2_with fail
          refine (specWord x.f0 (by omega) 20 _).mono ?_
          rintro e w3 ⟨⟨b4, rfl, hw4⟩, hb4⟩
          have hel : Row w3 wr.heap.size 63 #[.string x.f0, .string x.f1] := (Row.new wr 63 _).below hb4 (by simp)
          have hX3 := (HX2.out.alloc (.cells #[.string x.f0, .string x.f1] 63)).below hb4 (by simp; omega)
          have hn3 : Below wr.heap.size wr w3 := ((Below.refl wr.heap.size wr).alloc (Nat.le_refl _) _).trans (hb4.mono (by simp))
          have HN3 := Lib.hid hn3
          have HBw := Lib.hid (HB2.out.trans (hn3.mono (Nat.le_of_lt hgr2)))
          have v1 : w3.cell? ⟨wr.heap.size, 1, none⟩ = some (.string x.f1) := hel.cell 1
          have HEL := Lib.hid hel
          have HX3 := Lib.hid hX3
          clear e0 e1 hb4 hel hX3 hn3
          rcases Bool.eq_false_or_eq_true b4 with rfl | rfl
          case inr =>
            go_wp2_with fail
            go_ret
            exact ⟨Says.no, HBw.out⟩
          have HK4 := Lib.hid (hw4 rfl)
          clear hw4
          go_wp2_with fail
          refine (specWord x.f1 (by omega) 20 _).mono ?_
          rintro e w4 ⟨⟨b5, rfl, hw5⟩, hb5⟩
          have hel := HEL.out.below hb5 HEL.out.lt
          have hX4 := HX3.out.below hb5 HX3.out.lt
          have hn4 := HN3.out.trans (hb5.mono HN3.out.size)
          have HN4 := Lib.hid hn4
          have HBw4 := Lib.hid (HB2.out.trans (hn4.mono (Nat.le_of_lt hgr2)))
          have v0 : w4.cell? ⟨wr.heap.size, 0, none⟩ = some (.string x.f0) := hel.cell 0
          have v9 : w4.cell? ⟨w.heap.size, 9, none⟩ = some (.slice (some ad) exts.length m9) := hX4.cell 9
          have hg4 : wr.heap.size < w4.heap.size := hel.lt
          clear v1 hb5 HX3 HBw HN3 hX4
          have HEL4 := Lib.hid hel
          clear hel HEL hn4
          rcases Bool.eq_false_or_eq_true b5 with rfl | rfl
          case inr =>
            go_wp2_with fail
            go_ret
            exact ⟨Says.no, HBw4.out⟩
          have HV5 := Lib.hid (hw5 rfl)
          clear hw5
          rcases Bool.eq_false_or_eq_true (x.f0.toList == [114, 97, 100, 100, 114]) with p0 | p0
          · go_wp2_with fail
            go_ret
            exact ⟨Says.no, HBw4.out⟩
          rcases Bool.eq_false_or_eq_true (x.f0.toList == [114, 112, 111, 114, 116]) with p1 | p1
          · go_wp2_with fail
            go_ret
            exact ⟨Says.no, HBw4.out⟩
          rcases Bool.eq_false_or_eq_true (x.f0.toList == [116, 99, 112, 116, 121, 112, 101]) with p2 | p2
          · go_wp2_with fail
            go_ret
            exact ⟨Says.no, HBw4.out⟩
          go_wp2_with fail
          clear v0 v9
          have CC4 := Lib.hid (Kd.C_below CC.out HN4.out)
          go_loopw [177] (fun i w5 => ∃ m : Nat, m ≤ n ∧ i = .int .i64 m ∧ Hid (∀ j (h : j < exts.length), j < m → exts[j].f0 ≠ x.f0) ∧ Below w4.heap.size w4 w5) (fun i _ => n - (intOf i).toNat)
          case atStart => exact ⟨0, Nat.zero_le _, rfl, fun j _ h => absurd h (Nat.not_lt_zero j), Below.refl _ _⟩
          case round =>
            obtain ⟨m, hm, rfl, HD, hb6⟩ := hrel
            have hn5 := HN4.out.trans (hb6.mono (Nat.le_of_lt (Nat.lt_of_le_of_lt (Nat.le_refl _) hg4)))
            have HN5 := Lib.hid hn5
            have HB5 := Lib.hid (HB2.out.trans (hn5.mono (Nat.le_of_lt hgr2)))
            have hel5 := HEL4.out.below hb6 hg4
            by_cases hmn : m < n
            · obtain ⟨ad2, hA2, e0, e1⟩ := at_T63 (Kd.C_below CC4.out hb6) (m : Int) (by omega) (by omega)
              obtain rfl := Option.some.inj hA2
              have hml : m < exts.length := by omega
              have hy : rd_T63 exts (m : Int) = exts[m] := by simp [rd_T63, List.getD_eq_getElem?_getD, List.getElem?_eq_getElem hml]
              rw [hy, Int.toNat_natCast] at e0 e1
              clear hy
              generalize hye : exts[m] = y at e0 e1
              have HYE := Lib.hid hye
              clear hye
              have v0 := hel5.cell 0
              have v0' : wr.cell? ⟨_, 0, none⟩ = some (.string x.f0) := hel5.cell 0
              have hg5 := hel5.lt
              clear hel5 hn5 v0
              rcases Bool.eq_false_or_eq_true (y.f0.toList == x.f0.toList) with p3 | p3
              · go_wp2_with fail
                go_ret
                exact ⟨Says.no, HB5.out.alloc HB5.out.size _⟩
              go_wp2_with fail
              refine ⟨⟨m + 1, hmn, rfl, ?_, hb6.alloc hb6.size _⟩, by simp [intOf]; omega⟩
              intro j hj hjm
              by_cases hjm2 : j = m
              · subst hjm2
                rw [HYE.out]
                intro e
                rw [e] at p3
                simp at p3
              · exact HD.out j hj (by omega)
            · obtain rfl : n = m := by omega
              have hfin1 : ∀ j (h : j < exts.length), j < n + 1 → Word exts[j].f0 20 ∧ Word exts[j].f1 20 ∧ ¬ keyBad exts[j].f0 := by
                intro j hj hjn
                by_cases hjn2 : j = n
                · subst hjn2
                  rw [HXE.out]
                  refine ⟨HK4.out, HV5.out, ?_⟩
                  rintro (e | e | e)
                  · rw [e] at p0
                    simp [Lib.toList_data] at p0
                  · rw [e] at p1
                    simp [Lib.toList_data] at p1
                  · rw [e] at p2
                    simp [Lib.toList_data] at p2
                · exact HE.out j hj (by omega)
              have hfin2 : ∀ i j (hi : i < exts.length) (_ : j < i), i < n + 1 → exts[j].f0 ≠ exts[i].f0 := by
                intro i j hi hj hin
                by_cases hin2 : i = n
                · subst hin2
                  rw [HXE.out]
                  exact HD.out j (by omega) (by omega)
                · exact HK.out i j hi hj (by omega)
              have G1 := Lib.hid hfin1
              have G2 := Lib.hid hfin2
              clear hfin1 hfin2
              go_wp2_with fail
              first
                | exact ⟨⟨n + 1, hlt, rfl, G1.out, G2.out, hb2.trans (HN5.out.mono hb2.size)⟩, by simp [intOf]; omega⟩
                | (refine ⟨?_, by simp [intOf]; omega⟩
                   repeat apply Exists.intro
                   exact ⟨⟨n + 1, hlt, rfl, G1.out, G2.out, hb2.trans (HN5.out.mono hb2.size)⟩, rfl⟩)
        · have hnn : n = exts.length := by omega
          go_wp2_with fail
          go_ret
          refine ⟨Says.yes ?_, hB2⟩
          obtain ⟨a1, a2, a3, a4, a5, a6, a7, a8, a9, a10, a11, a12, a13⟩ := HF.out
          obtain ⟨b1, b2, b3, b4, b5⟩ := HF3.out
          exact ⟨a1, a2, a3, a4, a5, a6, a7, a8, a9, a10, a11, a12, a13, b1, b2, b3, b4, b5, HRel.out, fun x hx => (by
            obtain ⟨j, hj, rfl⟩ := List.mem_iff_getElem.1 hx
            exact HE.out j hj (by omega)), fun i j hi hj => HK.out i j hi hj (by omega)⟩
end Go.Proofs.YtmfdbcfpcifmcaaGreatDoor
