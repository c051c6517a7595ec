/- spec.Proper says no: kind against related addresses, the TCP type's range. (Written by mkproper2.py.) -/
import Derived.Test.YtmfdbcfpcifmcaaGreatDoorMd
namespace Go.Proofs.YtmfdbcfpcifmcaaGreatDoor
open Go.RowKit Go.Proofs.YtmfdbcfpcifmcaaGreatDoorW.PrintWords Go.Proofs.YtmfdbcfpcifmcaaGreatDoor.PFnFormat

set_option maxRecDepth 100000 in
set_option maxHeartbeats 8000000 in
theorem proper_no4 (kind net tcp : Int) (found : ByteArray) (hfs : found.size ≤ 2147483647) (comp prio : Int) (addr : ByteArray) (has : addr.size ≤ 2147483647) (port : Int) (A8 A9 : Option Addr) (m8 m9 : Nat) (rels : List S60) (exts : List S63) (w : World) (P : Prop) (q0 : decide (kind < 1) = false) (q1 : decide (kind > 4) = false) (q2 : decide (net < 1) = false) (q3 : decide (net > 4) = false) (q4 : decide (comp < 1) = false) (q5 : decide (comp > 256) = false) (q6 : (prio == 0) = false) (q7 : decide (port < 0) = false) (q8 : decide (port > 65535) = false) (q9 : decide ((rels.length : Int) > 1) = false) (q10 : decide ((exts.length : Int) > 5) = false) (hbad : ((kind == 1) = true ∧ ((rels.length : Int) == 0) = false) ∨ ((kind == 1) = false ∧ ((rels.length : Int) == 0) = true)) :
    Calls Tryz.prog 13 #[.agg #[.int .i64 kind, .int .i64 net, .int .i64 tcp, .string found, .int .i64 comp, .int .u32 prio, .string addr, .int .i64 port, .slice A8 rels.length m8, .slice A9 exts.length m9]] w fun e w' => Says P e ∧ Below w.heap.size w w' := by
  have hb := below_al (Below.refl w.heap.size w) (Nat.le_refl _) (.cells #[.int .i64 kind, .int .i64 net, .int .i64 tcp, .string found, .int .i64 comp, .int .u32 prio, .string addr, .int .i64 port, .slice A8 rels.length m8, .slice A9 exts.length m9] 31)
  have hbx := Row.new w 31 #[.int .i64 kind, .int .i64 net, .int .i64 tcp, .string found, .int .i64 comp, .int .u32 prio, .string addr, .int .i64 port, .slice A8 rels.length m8, .slice A9 exts.length m9]
  go_enter Tryz.func13, Tryz.ntmps13
  go_wp2_with fail
  generalize w.alloc (.cells #[.int .i64 kind, .int .i64 net, .int .i64 tcp, .string found, .int .i64 comp, .int .u32 prio, .string addr, .int .i64 port, .slice A8 rels.length m8, .slice A9 exts.length m9] 31) = W at *
  refine (specWord found (by omega) 32 W).mono ?_
  rintro e W1 ⟨⟨b1, rfl, hw1⟩, hb1⟩
  have hgl := hbx.lt
  have hB1 := hb.trans (hb1.mono (Nat.le_of_lt hgl))
  have hbx1 := hbx.below hb1 hgl
  have hgl1 := hbx1.lt
  clear hbx hb hb1
  have y1 : W1.cell? ⟨w.heap.size, 1, none⟩ = some (.int .i64 net) := hbx1.cell 1
  have y4 : W1.cell? ⟨w.heap.size, 4, none⟩ = some (.int .i64 comp) := hbx1.cell 4
  have y5 : W1.cell? ⟨w.heap.size, 5, none⟩ = some (.int .u32 prio) := hbx1.cell 5
  have y6 : W1.cell? ⟨w.heap.size, 6, none⟩ = some (.string addr) := hbx1.cell 6
  have y7 : W1.cell? ⟨w.heap.size, 7, none⟩ = some (.int .i64 port) := hbx1.cell 7
  have y8 : W1.cell? ⟨w.heap.size, 8, none⟩ = some (.slice A8 rels.length m8) := hbx1.cell 8
  have y9 : W1.cell? ⟨w.heap.size, 9, none⟩ = some (.slice A9 exts.length m9) := hbx1.cell 9
  have HB1 := Lib.hid hB1
  have HX1 := Lib.hid hbx1
  clear hB1 hbx1
  rcases Bool.eq_false_or_eq_true b1 with rfl | rfl
  case inr =>
    go_wp2_with fail
    go_ret
    exact ⟨Says.no, HB1.out⟩
  clear hw1
  go_wp2_with fail
  refine (specAddress addr has net W1).mono ?_
  rintro e W2 ⟨⟨b2, rfl, hw2⟩, hb2⟩
  have hB2 := HB1.out.trans (hb2.mono (Nat.le_of_lt hgl1))
  have hbx2 := HX1.out.below hb2 hgl1
  have hgl2 := hbx2.lt
  clear y1 y4 y5 y6 y7 y8 y9 HB1 HX1 hb2
  have y0 : W2.cell? ⟨w.heap.size, 0, none⟩ = some (.int .i64 kind) := hbx2.cell 0
  have y1 : W2.cell? ⟨w.heap.size, 1, none⟩ = some (.int .i64 net) := hbx2.cell 1
  have y2 : W2.cell? ⟨w.heap.size, 2, none⟩ = some (.int .i64 tcp) := hbx2.cell 2
  have y7 : W2.cell? ⟨w.heap.size, 7, none⟩ = some (.int .i64 port) := hbx2.cell 7
  have y8 : W2.cell? ⟨w.heap.size, 8, none⟩ = some (.slice A8 rels.length m8) := hbx2.cell 8
  have y9 : W2.cell? ⟨w.heap.size, 9, none⟩ = some (.slice A9 exts.length m9) := hbx2.cell 9
  have HB2 := Lib.hid hB2
  have HX2 := Lib.hid hbx2
  clear hB2 hbx2
  rcases Bool.eq_false_or_eq_true b2 with rfl | rfl
  case inr =>
    go_wp2_with fail
    go_ret
    exact ⟨Says.no, HB2.out⟩
  clear hw2
  go_wp2_with fail
  rcases hbad with ⟨k1, k2⟩ | ⟨k1, k2⟩
  all_goals
    go_quiet (fail)
    go_wp2_with fail
    go_ret
    exact ⟨Says.no, below_drewN HB2.out _⟩
set_option maxRecDepth 100000 in
set_option maxHeartbeats 8000000 in
theorem proper_no5 (kind net tcp : Int) (found : ByteArray) (hfs : found.size ≤ 2147483647) (comp prio : Int) (addr : ByteArray) (has : addr.size ≤ 2147483647) (port : Int) (A8 A9 : Option Addr) (m8 m9 : Nat) (rels : List S60) (exts : List S63) (w : World) (P : Prop) (q0 : decide (kind < 1) = false) (q1 : decide (kind > 4) = false) (q2 : decide (net < 1) = false) (q3 : decide (net > 4) = false) (q4 : decide (comp < 1) = false) (q5 : decide (comp > 256) = false) (q6 : (prio == 0) = false) (q7 : decide (port < 0) = false) (q8 : decide (port > 65535) = false) (q9 : decide ((rels.length : Int) > 1) = false) (q10 : decide ((exts.length : Int) > 5) = false) (hkl : ((kind == 1) = true ∧ ((rels.length : Int) == 0) = true) ∨ ((kind == 1) = false ∧ ((rels.length : Int) == 0) = false)) (hbad : decide (tcp < 0) = true ∨ (decide (tcp < 0) = false ∧ decide (tcp > 3) = true)) :
    Calls Tryz.prog 13 #[.agg #[.int .i64 kind, .int .i64 net, .int .i64 tcp, .string found, .int .i64 comp, .int .u32 prio, .string addr, .int .i64 port, .slice A8 rels.length m8, .slice A9 exts.length m9]] w fun e w' => Says P e ∧ Below w.heap.size w w' := by
  have hb := below_al (Below.refl w.heap.size w) (Nat.le_refl _) (.cells #[.int .i64 kind, .int .i64 net, .int .i64 tcp, .string found, .int .i64 comp, .int .u32 prio, .string addr, .int .i64 port, .slice A8 rels.length m8, .slice A9 exts.length m9] 31)
  have hbx := Row.new w 31 #[.int .i64 kind, .int .i64 net, .int .i64 tcp, .string found, .int .i64 comp, .int .u32 prio, .string addr, .int .i64 port, .slice A8 rels.length m8, .slice A9 exts.length m9]
  go_enter Tryz.func13, Tryz.ntmps13
  go_wp2_with fail
  generalize w.alloc (.cells #[.int .i64 kind, .int .i64 net, .int .i64 tcp, .string found, .int .i64 comp, .int .u32 prio, .string addr, .int .i64 port, .slice A8 rels.length m8, .slice A9 exts.length m9] 31) = W at *
  refine (specWord found (by omega) 32 W).mono ?_
  rintro e W1 ⟨⟨b1, rfl, hw1⟩, hb1⟩
  have hgl := hbx.lt
  have hB1 := hb.trans (hb1.mono (Nat.le_of_lt hgl))
  have hbx1 := hbx.below hb1 hgl
  have hgl1 := hbx1.lt
  clear hbx hb hb1
  have y1 : W1.cell? ⟨w.heap.size, 1, none⟩ = some (.int .i64 net) := hbx1.cell 1
  have y4 : W1.cell? ⟨w.heap.size, 4, none⟩ = some (.int .i64 comp) := hbx1.cell 4
  have y5 : W1.cell? ⟨w.heap.size, 5, none⟩ = some (.int .u32 prio) := hbx1.cell 5
  have y6 : W1.cell? ⟨w.heap.size, 6, none⟩ = some (.string addr) := hbx1.cell 6
  have y7 : W1.cell? ⟨w.heap.size, 7, none⟩ = some (.int .i64 port) := hbx1.cell 7
  have y8 : W1.cell? ⟨w.heap.size, 8, none⟩ = some (.slice A8 rels.length m8) := hbx1.cell 8
  have y9 : W1.cell? ⟨w.heap.size, 9, none⟩ = some (.slice A9 exts.length m9) := hbx1.cell 9
  have HB1 := Lib.hid hB1
  have HX1 := Lib.hid hbx1
  clear hB1 hbx1
  rcases Bool.eq_false_or_eq_true b1 with rfl | rfl
  case inr =>
    go_wp2_with fail
    go_ret
    exact ⟨Says.no, HB1.out⟩
  clear hw1
  go_wp2_with fail
  refine (specAddress addr has net W1).mono ?_
  rintro e W2 ⟨⟨b2, rfl, hw2⟩, hb2⟩
  have hB2 := HB1.out.trans (hb2.mono (Nat.le_of_lt hgl1))
  have hbx2 := HX1.out.below hb2 hgl1
  have hgl2 := hbx2.lt
  clear y1 y4 y5 y6 y7 y8 y9 HB1 HX1 hb2
  have y0 : W2.cell? ⟨w.heap.size, 0, none⟩ = some (.int .i64 kind) := hbx2.cell 0
  have y1 : W2.cell? ⟨w.heap.size, 1, none⟩ = some (.int .i64 net) := hbx2.cell 1
  have y2 : W2.cell? ⟨w.heap.size, 2, none⟩ = some (.int .i64 tcp) := hbx2.cell 2
  have y7 : W2.cell? ⟨w.heap.size, 7, none⟩ = some (.int .i64 port) := hbx2.cell 7
  have y8 : W2.cell? ⟨w.heap.size, 8, none⟩ = some (.slice A8 rels.length m8) := hbx2.cell 8
  have y9 : W2.cell? ⟨w.heap.size, 9, none⟩ = some (.slice A9 exts.length m9) := hbx2.cell 9
  have HB2 := Lib.hid hB2
  have HX2 := Lib.hid hbx2
  clear hB2 hbx2
  rcases Bool.eq_false_or_eq_true b2 with rfl | rfl
  case inr =>
    go_wp2_with fail
    go_ret
    exact ⟨Says.no, HB2.out⟩
  clear hw2
  go_wp2_with fail
  rcases hkl with ⟨k1, k2⟩ | ⟨k1, k2⟩ <;> rcases hbad with q13 | ⟨q13, q14⟩
  all_goals
    go_quiet (fail)
    go_wp2_with fail
    go_ret
    exact ⟨Says.no, below_drewN HB2.out _⟩
end Go.Proofs.YtmfdbcfpcifmcaaGreatDoor
