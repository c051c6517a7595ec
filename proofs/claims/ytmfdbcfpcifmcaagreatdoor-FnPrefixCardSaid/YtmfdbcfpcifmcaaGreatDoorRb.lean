/- UnmarshalCandidate at the reference's text of a candidate. (Joined by mkread.py.) -/
import Derived.Test.YtmfdbcfpcifmcaaGreatDoorRa
namespace Go.Proofs.YtmfdbcfpcifmcaaGreatDoor
open Go.RowKit Go.Proofs.YtmfdbcfpcifmcaaGreatDoorW.PrintWords Go.Proofs.YtmfdbcfpcifmcaaGreatDoor.PFnFormat

set_option maxRecDepth 100000 in
set_option maxHeartbeats 4000000 in
theorem unmOk1A (raw0 raw w0 w2 w4 : ByteArray) (tcpB six : Bool) (q0 q1 q2 q3 q4 q5 q6 q7 q8 comp prio port : Nat)
    (hp : ∀ W, Calls Tryz.prog 63 #[.string raw0, .string ⟨#[99, 97, 110, 100, 105, 100, 97, 116, 101, 58]⟩] W fun e w' => e = .returned (.string raw) ∧ W = w')
    (R0 : ∀ W, Calls Tryz.prog 64 #[.string raw, .int .i64 0, .int .i64 32] W fun e w' => e = .returned (.tuple #[.string w0, .int .i64 (q0 : Int), .nilIface]) ∧ Below W.heap.size W w')
    (R1 : ∀ W, Calls Tryz.prog 65 #[.string raw, .int .i64 (q0 : Int)] W fun e w' => e = .returned (.tuple #[.int .u16 (comp : Int), .int .i64 (q1 : Int), .nilIface]) ∧ Below W.heap.size W w')
    (R2 : ∀ W, Calls Tryz.prog 66 #[.string raw, .int .i64 (q1 : Int)] W fun e w' => e = .returned (.tuple #[.string w2, .int .i64 (q2 : Int)]) ∧ Below W.heap.size W w')
    (R3 : ∀ W, Calls Tryz.prog 67 #[.string raw, .int .i64 (q2 : Int)] W fun e w' => e = .returned (.tuple #[.int .u32 (prio : Int), .int .i64 (q3 : Int), .nilIface]) ∧ Below W.heap.size W w')
    (R4 : ∀ W, Calls Tryz.prog 66 #[.string raw, .int .i64 (q3 : Int)] W fun e w' => e = .returned (.tuple #[.string w4, .int .i64 (q4 : Int)]) ∧ Below W.heap.size W w')
    (R5 : ∀ W, Calls Tryz.prog 69 #[.string raw, .int .i64 (q4 : Int)] W fun e w' => e = .returned (.tuple #[.int .i64 (port : Int), .int .i64 (q5 : Int), .nilIface]) ∧ Below W.heap.size W w')
    (R6 : ∀ W, Calls Tryz.prog 66 #[.string raw, .int .i64 (q5 : Int)] W fun e w' => e = .returned (.tuple #[.string ⟨#[116, 121, 112]⟩, .int .i64 (q6 : Int)]) ∧ Below W.heap.size W w')
    (R7 : ∀ W, Calls Tryz.prog 66 #[.string raw, .int .i64 (q6 : Int)] W fun e w' => e = .returned (.tuple #[.string ⟨#[104, 111, 115, 116]⟩, .int .i64 (q7 : Int)]) ∧ Below W.heap.size W w')
    (R8 : ∀ W, Calls Tryz.prog 70 #[.string raw, .int .i64 (q7 : Int)] W fun e w' => e = .returned (.tuple #[.string ⟨#[]⟩, .int .i64 0, .int .i64 (q8 : Int), .nilIface]) ∧ Below W.heap.size W w')
    (RZ : ∀ W, Calls Tryz.prog 68 #[.string w4] W fun e w' => e = .returned (.string w4) ∧ W = w')
    (h0 : 0 < w0.size) (l0 : q0 < raw.size) (l1 : q1 < raw.size) (l2 : q2 < raw.size) (l3 : q3 < raw.size) (l4 : q4 < raw.size) (l5 : q5 < raw.size) (l6 : q6 < raw.size)
    (l8 : q8 = raw.size)
    (hn : netName tcpB w2) (ha : addrText six w4) (hs : w4.size ≤ maxLen) (hpo : port ≤ 65535)
    (w : World) (p4 p6 : Addr) (hG : Glob w p4 p6) :
    Calls Tryz.prog 47 #[.string raw0] w fun e w' => ∃ (g : Nat) (rel : Option Addr) (v : Value), e = .returned (.tuple #[.iface 90 (.pointer (some ⟨g, 0, none⟩)), .nilIface]) ∧ Below w.heap.size w w' ∧ w.heap.size ≤ g ∧
      CandAt w' 1 g { typ := 1, net := netNum tcpB six, comp := comp, port := port, tcp := 0, prio := prio, relay := 0, addr := w4, found := w0, exts := v } rel ∧ RelIs w' rel [] ∧ RowX w' v [] := by
  have hne := notEmpty h0
  have j0 : decide ((raw.size : Int) ≤ q0) = false := decide_eq_false (by omega)
  have j1 : decide ((raw.size : Int) ≤ q1) = false := decide_eq_false (by omega)
  have j2 : decide ((raw.size : Int) ≤ q2) = false := decide_eq_false (by omega)
  have j3 : decide ((raw.size : Int) ≤ q3) = false := decide_eq_false (by omega)
  have j4 : decide ((raw.size : Int) ≤ q4) = false := decide_eq_false (by omega)
  have j5 : decide ((raw.size : Int) ≤ q5) = false := decide_eq_false (by omega)
  have j6 : decide ((raw.size : Int) ≤ q6) = false := decide_eq_false (by omega)
  subst l8
  have HN := Lib.hid hn
  have HA := Lib.hid ha
  clear hn ha
  go_enter Tryz.func47, Tryz.ntmps47
  go_wp2_with fail
  refine (hp _).mono ?_
  rintro e w' ⟨rfl, rfl⟩
  clear hp
  go_wp2_with fail
  refine (R0 _).mono ?_
  rintro e v0 ⟨rfl, hb0⟩
  clear R0
  go_wp2_with fail
  refine (R1 _).mono ?_
  rintro e v1 ⟨rfl, hx⟩
  have hb1 := hb0.trans (hx.mono hb0.size)
  clear hx hb0
  clear R1
  go_wp2_with fail
  refine (R2 _).mono ?_
  rintro e v2 ⟨rfl, hx⟩
  have hb2 := hb1.trans (hx.mono hb1.size)
  clear hx hb1
  clear R2
  go_wp2_with fail
  refine (R3 _).mono ?_
  rintro e v3 ⟨rfl, hx⟩
  have hb3 := hb2.trans (hx.mono hb2.size)
  clear hx hb2
  clear R3
  go_wp2_with fail
  refine (R4 _).mono ?_
  rintro e v4 ⟨rfl, hx⟩
  have hb4 := hb3.trans (hx.mono hb3.size)
  clear hx hb3
  clear R4
  go_wp2_with fail
  refine (RZ _).mono ?_
  rintro e w' ⟨rfl, rfl⟩
  clear RZ
  go_wp2_with fail
  refine (R5 _).mono ?_
  rintro e v5 ⟨rfl, hx⟩
  have hb5 := hb4.trans (hx.mono hb4.size)
  clear hx hb4
  clear R5
  go_wp2_with fail
  refine (R6 _).mono ?_
  rintro e v6 ⟨rfl, hx⟩
  have hb6 := hb5.trans (hx.mono hb5.size)
  clear hx hb5
  clear R6
  go_wp2_with fail
  refine (R7 _).mono ?_
  rintro e v7 ⟨rfl, hx⟩
  have hb7 := hb6.trans (hx.mono hb6.size)
  clear hx hb6
  clear R7
  go_wp2_with fail
  refine (R8 _).mono ?_
  rintro e v8 ⟨rfl, hx⟩
  have hb8 := hb7.trans (hx.mono hb7.size)
  clear hx hb7
  clear R8
  have HR : Hid (Kd.R k62 115 v8 w.heap.size (fun k => k < v8.heap.size) (.slice none 0 0) []) := Lib.hid (Kd.R_nil _ _ _ _ _)
  have HB := Lib.hid hb8
  clear hb8
  go_wp2_with fail
  have hbA := below_al (Below.refl v8.heap.size v8) (Nat.le_refl _) (.cells #[.string ⟨#[]⟩, .string w2, .string w4, .int .i64 (port : Int), .int .u16 (comp : Int), .int .u32 (prio : Int), .string w0, .int .i64 0, .bool false] 96)
  have hrow := Row.new v8 96 #[.string ⟨#[]⟩, .string w2, .string w4, .int .i64 (port : Int), .int .u16 (comp : Int), .int .u32 (prio : Int), .string w0, .int .i64 0, .bool false]
  have hGA := (hG.below HB.out).below hbA
  refine (newHostC (tcp := tcpB) (six := six) HN.out HA.out hs (port : Int) (comp : Int) (prio : Int) 0 w0 (by omega) (by omega) v8.heap.size _ p4 p6 hGA hrow).mono ?_
  rintro e u ⟨g, rfl, hx, hg, hC⟩
  have hgl : w.heap.size ≤ g := Nat.le_trans HB.out.size (Nat.le_trans hbA.size hg)
  have hgc : v8.heap.size ≤ g := Nat.le_trans hbA.size hg
  have HBu := Lib.hid (HB.out.trans ((hbA.trans (hx.mono hbA.size)).mono HB.out.size))
  have HRu := Lib.hid (Kd.R_below HR.out (hbA.trans (hx.mono hbA.size)))
  have HC := Lib.hid hC
  obtain ⟨k16, f16⟩ := hC.slot
  clear hC hx hbA hrow hGA hg HR HB
  go_wp2_with fail
  refine (setExts g none 0 0 u k16 f16).mono ?_
  rintro e w' ⟨rfl, rfl⟩
  clear k16 f16
  go_wp2_with fail
  refine bodyPost_ret (v := .tuple #[.iface 90 (.pointer (some ⟨g, 0, none⟩)), .nilIface]) ?h1 rfl ⟨g, _, .slice none 0 0, rfl, below_st HBu.out hgl 16 _, hgl, HC.out.setX _, .inl ⟨rfl, rfl⟩, Kd.R_reads (Kd.R_far (p := ⟨g, 16, none⟩) HRu.out (fun _ hk => by simp only; omega) _)⟩
  case h1 => simp [results, Tryz.results47, go_sem]

set_option maxRecDepth 100000 in
set_option maxHeartbeats 4000000 in
theorem unmOk1B (raw0 raw w0 w2 w4 : ByteArray) (tcpB six : Bool) (q0 q1 q2 q3 q4 q5 q6 q7 q8 comp prio port : Nat)
    (hp : ∀ W, Calls Tryz.prog 63 #[.string raw0, .string ⟨#[99, 97, 110, 100, 105, 100, 97, 116, 101, 58]⟩] W fun e w' => e = .returned (.string raw) ∧ W = w')
    (R0 : ∀ W, Calls Tryz.prog 64 #[.string raw, .int .i64 0, .int .i64 32] W fun e w' => e = .returned (.tuple #[.string w0, .int .i64 (q0 : Int), .nilIface]) ∧ Below W.heap.size W w')
    (R1 : ∀ W, Calls Tryz.prog 65 #[.string raw, .int .i64 (q0 : Int)] W fun e w' => e = .returned (.tuple #[.int .u16 (comp : Int), .int .i64 (q1 : Int), .nilIface]) ∧ Below W.heap.size W w')
    (R2 : ∀ W, Calls Tryz.prog 66 #[.string raw, .int .i64 (q1 : Int)] W fun e w' => e = .returned (.tuple #[.string w2, .int .i64 (q2 : Int)]) ∧ Below W.heap.size W w')
    (R3 : ∀ W, Calls Tryz.prog 67 #[.string raw, .int .i64 (q2 : Int)] W fun e w' => e = .returned (.tuple #[.int .u32 (prio : Int), .int .i64 (q3 : Int), .nilIface]) ∧ Below W.heap.size W w')
    (R4 : ∀ W, Calls Tryz.prog 66 #[.string raw, .int .i64 (q3 : Int)] W fun e w' => e = .returned (.tuple #[.string w4, .int .i64 (q4 : Int)]) ∧ Below W.heap.size W w')
    (R5 : ∀ W, Calls Tryz.prog 69 #[.string raw, .int .i64 (q4 : Int)] W fun e w' => e = .returned (.tuple #[.int .i64 (port : Int), .int .i64 (q5 : Int), .nilIface]) ∧ Below W.heap.size W w')
    (R6 : ∀ W, Calls Tryz.prog 66 #[.string raw, .int .i64 (q5 : Int)] W fun e w' => e = .returned (.tuple #[.string ⟨#[116, 121, 112]⟩, .int .i64 (q6 : Int)]) ∧ Below W.heap.size W w')
    (R7 : ∀ W, Calls Tryz.prog 66 #[.string raw, .int .i64 (q6 : Int)] W fun e w' => e = .returned (.tuple #[.string ⟨#[104, 111, 115, 116]⟩, .int .i64 (q7 : Int)]) ∧ Below W.heap.size W w')
    (R8 : ∀ W, Calls Tryz.prog 70 #[.string raw, .int .i64 (q7 : Int)] W fun e w' => e = .returned (.tuple #[.string ⟨#[]⟩, .int .i64 0, .int .i64 (q8 : Int), .nilIface]) ∧ Below W.heap.size W w')
    (RZ : ∀ W, Calls Tryz.prog 68 #[.string w4] W fun e w' => e = .returned (.string w4) ∧ W = w')
    (h0 : 0 < w0.size) (l0 : q0 < raw.size) (l1 : q1 < raw.size) (l2 : q2 < raw.size) (l3 : q3 < raw.size) (l4 : q4 < raw.size) (l5 : q5 < raw.size) (l6 : q6 < raw.size)
    (l8 : q8 < raw.size) (sub : ByteArray) (hsl : ∀ W : World, (Instr.slice 9 (.string raw) (some (.int .i64 (q8 : Int))) none none).run Tryz.prog W = .ok (.string sub) W)
    (xs : List S62) (RE : ∀ W, Calls Tryz.prog 71 #[.string sub] W fun e w' => ∃ v, e = .returned (.tuple #[v, .string ⟨#[]⟩, .nilIface]) ∧ Kd.R k62 115 w' W.heap.size (fun _ => True) v xs ∧ Below W.heap.size W w')
    (hn : netName tcpB w2) (ha : addrText six w4) (hs : w4.size ≤ maxLen) (hpo : port ≤ 65535)
    (w : World) (p4 p6 : Addr) (hG : Glob w p4 p6) :
    Calls Tryz.prog 47 #[.string raw0] w fun e w' => ∃ (g : Nat) (rel : Option Addr) (v : Value), e = .returned (.tuple #[.iface 90 (.pointer (some ⟨g, 0, none⟩)), .nilIface]) ∧ Below w.heap.size w w' ∧ w.heap.size ≤ g ∧
      CandAt w' 1 g { typ := 1, net := netNum tcpB six, comp := comp, port := port, tcp := 0, prio := prio, relay := 0, addr := w4, found := w0, exts := v } rel ∧ RelIs w' rel [] ∧ RowX w' v xs := by
  have hne := notEmpty h0
  have j0 : decide ((raw.size : Int) ≤ q0) = false := decide_eq_false (by omega)
  have j1 : decide ((raw.size : Int) ≤ q1) = false := decide_eq_false (by omega)
  have j2 : decide ((raw.size : Int) ≤ q2) = false := decide_eq_false (by omega)
  have j3 : decide ((raw.size : Int) ≤ q3) = false := decide_eq_false (by omega)
  have j4 : decide ((raw.size : Int) ≤ q4) = false := decide_eq_false (by omega)
  have j5 : decide ((raw.size : Int) ≤ q5) = false := decide_eq_false (by omega)
  have j6 : decide ((raw.size : Int) ≤ q6) = false := decide_eq_false (by omega)
  have j8 : decide ((q8 : Int) < raw.size) = true := decide_eq_true (by omega)
  have HN := Lib.hid hn
  have HA := Lib.hid ha
  clear hn ha
  go_enter Tryz.func47, Tryz.ntmps47
  go_wp2_with fail
  refine (hp _).mono ?_
  rintro e w' ⟨rfl, rfl⟩
  clear hp
  go_wp2_with fail
  refine (R0 _).mono ?_
  rintro e v0 ⟨rfl, hb0⟩
  clear R0
  go_wp2_with fail
  refine (R1 _).mono ?_
  rintro e v1 ⟨rfl, hx⟩
  have hb1 := hb0.trans (hx.mono hb0.size)
  clear hx hb0
  clear R1
  go_wp2_with fail
  refine (R2 _).mono ?_
  rintro e v2 ⟨rfl, hx⟩
  have hb2 := hb1.trans (hx.mono hb1.size)
  clear hx hb1
  clear R2
  go_wp2_with fail
  refine (R3 _).mono ?_
  rintro e v3 ⟨rfl, hx⟩
  have hb3 := hb2.trans (hx.mono hb2.size)
  clear hx hb2
  clear R3
  go_wp2_with fail
  refine (R4 _).mono ?_
  rintro e v4 ⟨rfl, hx⟩
  have hb4 := hb3.trans (hx.mono hb3.size)
  clear hx hb3
  clear R4
  go_wp2_with fail
  refine (RZ _).mono ?_
  rintro e w' ⟨rfl, rfl⟩
  clear RZ
  go_wp2_with fail
  refine (R5 _).mono ?_
  rintro e v5 ⟨rfl, hx⟩
  have hb5 := hb4.trans (hx.mono hb4.size)
  clear hx hb4
  clear R5
  go_wp2_with fail
  refine (R6 _).mono ?_
  rintro e v6 ⟨rfl, hx⟩
  have hb6 := hb5.trans (hx.mono hb5.size)
  clear hx hb5
  clear R6
  go_wp2_with fail
  refine (R7 _).mono ?_
  rintro e v7 ⟨rfl, hx⟩
  have hb7 := hb6.trans (hx.mono hb6.size)
  clear hx hb6
  clear R7
  go_wp2_with fail
  refine (R8 _).mono ?_
  rintro e v8 ⟨rfl, hx⟩
  have hb8 := hb7.trans (hx.mono hb7.size)
  clear hx hb7
  clear R8
  go_wp2_with fail
  refine (RE _).mono ?_
  rintro e v9 ⟨v, rfl, hR, hx⟩
  obtain ⟨A, m, rfl⟩ := Kd.R_slice hR
  have HR : Hid (Kd.R k62 115 v9 w.heap.size (fun k => k < v9.heap.size) (.slice A xs.length m) xs) := Lib.hid (Kd.R_mono (Kd.R_bound (Kd.R_lower hR hb8.size)) (fun _ hk => hk.2.2.1))
  have HB := Lib.hid (hb8.trans (hx.mono hb8.size))
  clear hb8 hx hR RE
  go_wp2_with fail
  have hbA := below_al (Below.refl v9.heap.size v9) (Nat.le_refl _) (.cells #[.string ⟨#[]⟩, .string w2, .string w4, .int .i64 (port : Int), .int .u16 (comp : Int), .int .u32 (prio : Int), .string w0, .int .i64 0, .bool false] 96)
  have hrow := Row.new v9 96 #[.string ⟨#[]⟩, .string w2, .string w4, .int .i64 (port : Int), .int .u16 (comp : Int), .int .u32 (prio : Int), .string w0, .int .i64 0, .bool false]
  have hGA := (hG.below HB.out).below hbA
  refine (newHostC (tcp := tcpB) (six := six) HN.out HA.out hs (port : Int) (comp : Int) (prio : Int) 0 w0 (by omega) (by omega) v9.heap.size _ p4 p6 hGA hrow).mono ?_
  rintro e u ⟨g, rfl, hx, hg, hC⟩
  have hgl : w.heap.size ≤ g := Nat.le_trans HB.out.size (Nat.le_trans hbA.size hg)
  have hgc : v9.heap.size ≤ g := Nat.le_trans hbA.size hg
  have HBu := Lib.hid (HB.out.trans ((hbA.trans (hx.mono hbA.size)).mono HB.out.size))
  have HRu := Lib.hid (Kd.R_below HR.out (hbA.trans (hx.mono hbA.size)))
  have HC := Lib.hid hC
  obtain ⟨k16, f16⟩ := hC.slot
  clear hC hx hbA hrow hGA hg HR HB
  go_wp2_with fail
  refine (setExts g A xs.length m u k16 f16).mono ?_
  rintro e w' ⟨rfl, rfl⟩
  clear k16 f16
  go_wp2_with fail
  refine bodyPost_ret (v := .tuple #[.iface 90 (.pointer (some ⟨g, 0, none⟩)), .nilIface]) ?h1 rfl ⟨g, _, .slice A xs.length m, rfl, below_st HBu.out hgl 16 _, hgl, HC.out.setX _, .inl ⟨rfl, rfl⟩, Kd.R_reads (Kd.R_far (p := ⟨g, 16, none⟩) HRu.out (fun _ hk => by simp only; omega) _)⟩
  case h1 => simp [results, Tryz.results47, go_sem]

set_option maxRecDepth 100000 in
set_option maxHeartbeats 4000000 in
theorem unmOk1C (raw0 raw w0 w2 w4 : ByteArray) (tcpB six : Bool) (q0 q1 q2 q3 q4 q5 q6 q7 q8 comp prio port : Nat)
    (hp : ∀ W, Calls Tryz.prog 63 #[.string raw0, .string ⟨#[99, 97, 110, 100, 105, 100, 97, 116, 101, 58]⟩] W fun e w' => e = .returned (.string raw) ∧ W = w')
    (R0 : ∀ W, Calls Tryz.prog 64 #[.string raw, .int .i64 0, .int .i64 32] W fun e w' => e = .returned (.tuple #[.string w0, .int .i64 (q0 : Int), .nilIface]) ∧ Below W.heap.size W w')
    (R1 : ∀ W, Calls Tryz.prog 65 #[.string raw, .int .i64 (q0 : Int)] W fun e w' => e = .returned (.tuple #[.int .u16 (comp : Int), .int .i64 (q1 : Int), .nilIface]) ∧ Below W.heap.size W w')
    (R2 : ∀ W, Calls Tryz.prog 66 #[.string raw, .int .i64 (q1 : Int)] W fun e w' => e = .returned (.tuple #[.string w2, .int .i64 (q2 : Int)]) ∧ Below W.heap.size W w')
    (R3 : ∀ W, Calls Tryz.prog 67 #[.string raw, .int .i64 (q2 : Int)] W fun e w' => e = .returned (.tuple #[.int .u32 (prio : Int), .int .i64 (q3 : Int), .nilIface]) ∧ Below W.heap.size W w')
    (R4 : ∀ W, Calls Tryz.prog 66 #[.string raw, .int .i64 (q3 : Int)] W fun e w' => e = .returned (.tuple #[.string w4, .int .i64 (q4 : Int)]) ∧ Below W.heap.size W w')
    (R5 : ∀ W, Calls Tryz.prog 69 #[.string raw, .int .i64 (q4 : Int)] W fun e w' => e = .returned (.tuple #[.int .i64 (port : Int), .int .i64 (q5 : Int), .nilIface]) ∧ Below W.heap.size W w')
    (R6 : ∀ W, Calls Tryz.prog 66 #[.string raw, .int .i64 (q5 : Int)] W fun e w' => e = .returned (.tuple #[.string ⟨#[116, 121, 112]⟩, .int .i64 (q6 : Int)]) ∧ Below W.heap.size W w')
    (R7 : ∀ W, Calls Tryz.prog 66 #[.string raw, .int .i64 (q6 : Int)] W fun e w' => e = .returned (.tuple #[.string ⟨#[104, 111, 115, 116]⟩, .int .i64 (q7 : Int)]) ∧ Below W.heap.size W w')
    (R8 : ∀ W, Calls Tryz.prog 70 #[.string raw, .int .i64 (q7 : Int)] W fun e w' => e = .returned (.tuple #[.string ⟨#[]⟩, .int .i64 0, .int .i64 (q8 : Int), .nilIface]) ∧ Below W.heap.size W w')
    (RZ : ∀ W, Calls Tryz.prog 68 #[.string w4] W fun e w' => e = .returned (.string w4) ∧ W = w')
    (h0 : 0 < w0.size) (l0 : q0 < raw.size) (l1 : q1 < raw.size) (l2 : q2 < raw.size) (l3 : q3 < raw.size) (l4 : q4 < raw.size) (l5 : q5 < raw.size) (l6 : q6 < raw.size)
    (l8 : q8 < raw.size) (sub : ByteArray) (hsl : ∀ W : World, (Instr.slice 9 (.string raw) (some (.int .i64 (q8 : Int))) none none).run Tryz.prog W = .ok (.string sub) W)
    (xs : List S62) (ts : ByteArray) (tt : Int) (ht0 : 1 ≤ tt) (hts : 0 < ts.size) (R72 : ∀ W, Calls Tryz.prog 72 #[.string ts] W fun e w' => e = .returned (.int .i64 tt) ∧ Below W.heap.size W w') (RE : ∀ W, Calls Tryz.prog 71 #[.string sub] W fun e w' => ∃ v, e = .returned (.tuple #[v, .string ts, .nilIface]) ∧ Kd.R k62 115 w' W.heap.size (fun _ => True) v xs ∧ Below W.heap.size W w')
    (hn : netName tcpB w2) (ha : addrText six w4) (hs : w4.size ≤ maxLen) (hpo : port ≤ 65535)
    (w : World) (p4 p6 : Addr) (hG : Glob w p4 p6) :
    Calls Tryz.prog 47 #[.string raw0] w fun e w' => ∃ (g : Nat) (rel : Option Addr) (v : Value), e = .returned (.tuple #[.iface 90 (.pointer (some ⟨g, 0, none⟩)), .nilIface]) ∧ Below w.heap.size w w' ∧ w.heap.size ≤ g ∧
      CandAt w' 1 g { typ := 1, net := netNum tcpB six, comp := comp, port := port, tcp := tt, prio := prio, relay := 0, addr := w4, found := w0, exts := v } rel ∧ RelIs w' rel [] ∧ RowX w' v xs := by
  have hne := notEmpty h0
  have j0 : decide ((raw.size : Int) ≤ q0) = false := decide_eq_false (by omega)
  have j1 : decide ((raw.size : Int) ≤ q1) = false := decide_eq_false (by omega)
  have j2 : decide ((raw.size : Int) ≤ q2) = false := decide_eq_false (by omega)
  have j3 : decide ((raw.size : Int) ≤ q3) = false := decide_eq_false (by omega)
  have j4 : decide ((raw.size : Int) ≤ q4) = false := decide_eq_false (by omega)
  have j5 : decide ((raw.size : Int) ≤ q5) = false := decide_eq_false (by omega)
  have j6 : decide ((raw.size : Int) ≤ q6) = false := decide_eq_false (by omega)
  have j8 : decide ((q8 : Int) < raw.size) = true := decide_eq_true (by omega)
  have hne2 := notEmpty hts
  have hd : (tt == 0) = false := by simp; omega
  have HN := Lib.hid hn
  have HA := Lib.hid ha
  clear hn ha
  go_enter Tryz.func47, Tryz.ntmps47
  go_wp2_with fail
  refine (hp _).mono ?_
  rintro e w' ⟨rfl, rfl⟩
  clear hp
  go_wp2_with fail
  refine (R0 _).mono ?_
  rintro e v0 ⟨rfl, hb0⟩
  clear R0
  go_wp2_with fail
  refine (R1 _).mono ?_
  rintro e v1 ⟨rfl, hx⟩
  have hb1 := hb0.trans (hx.mono hb0.size)
  clear hx hb0
  clear R1
  go_wp2_with fail
  refine (R2 _).mono ?_
  rintro e v2 ⟨rfl, hx⟩
  have hb2 := hb1.trans (hx.mono hb1.size)
  clear hx hb1
  clear R2
  go_wp2_with fail
  refine (R3 _).mono ?_
  rintro e v3 ⟨rfl, hx⟩
  have hb3 := hb2.trans (hx.mono hb2.size)
  clear hx hb2
  clear R3
  go_wp2_with fail
  refine (R4 _).mono ?_
  rintro e v4 ⟨rfl, hx⟩
  have hb4 := hb3.trans (hx.mono hb3.size)
  clear hx hb3
  clear R4
  go_wp2_with fail
  refine (RZ _).mono ?_
  rintro e w' ⟨rfl, rfl⟩
  clear RZ
  go_wp2_with fail
  refine (R5 _).mono ?_
  rintro e v5 ⟨rfl, hx⟩
  have hb5 := hb4.trans (hx.mono hb4.size)
  clear hx hb4
  clear R5
  go_wp2_with fail
  refine (R6 _).mono ?_
  rintro e v6 ⟨rfl, hx⟩
  have hb6 := hb5.trans (hx.mono hb5.size)
  clear hx hb5
  clear R6
  go_wp2_with fail
  refine (R7 _).mono ?_
  rintro e v7 ⟨rfl, hx⟩
  have hb7 := hb6.trans (hx.mono hb6.size)
  clear hx hb6
  clear R7
  go_wp2_with fail
  refine (R8 _).mono ?_
  rintro e v8 ⟨rfl, hx⟩
  have hb8 := hb7.trans (hx.mono hb7.size)
  clear hx hb7
  clear R8
  go_wp2_with fail
  refine (RE _).mono ?_
  rintro e v9 ⟨v, rfl, hR, hx⟩
  obtain ⟨A, m, rfl⟩ := Kd.R_slice hR
  have HR : Hid (Kd.R k62 115 v9 w.heap.size (fun k => k < v9.heap.size) (.slice A xs.length m) xs) := Lib.hid (Kd.R_mono (Kd.R_bound (Kd.R_lower hR hb8.size)) (fun _ hk => hk.2.2.1))
  have HB := Lib.hid (hb8.trans (hx.mono hb8.size))
  clear hb8 hx hR RE
  go_wp2_with fail
  refine (R72 _).mono ?_
  rintro e v10 ⟨rfl, hx⟩
  have HR2 : Hid (Kd.R k62 115 v10 w.heap.size (fun k => k < v10.heap.size) (.slice A xs.length m) xs) := Lib.hid (Kd.R_mono (Kd.R_below HR.out hx) (fun _ hk => Nat.lt_of_lt_of_le hk hx.size))
  have HB2 := Lib.hid (HB.out.trans (hx.mono HB.out.size))
  clear HR HB hx R72
  go_wp2_with fail
  have hbA := below_al (Below.refl v10.heap.size v10) (Nat.le_refl _) (.cells #[.string ⟨#[]⟩, .string w2, .string w4, .int .i64 (port : Int), .int .u16 (comp : Int), .int .u32 (prio : Int), .string w0, .int .i64 tt, .bool false] 96)
  have hrow := Row.new v10 96 #[.string ⟨#[]⟩, .string w2, .string w4, .int .i64 (port : Int), .int .u16 (comp : Int), .int .u32 (prio : Int), .string w0, .int .i64 tt, .bool false]
  have hGA := (hG.below HB2.out).below hbA
  refine (newHostC (tcp := tcpB) (six := six) HN.out HA.out hs (port : Int) (comp : Int) (prio : Int) tt w0 (by omega) (by omega) v10.heap.size _ p4 p6 hGA hrow).mono ?_
  rintro e u ⟨g, rfl, hx, hg, hC⟩
  have hgl : w.heap.size ≤ g := Nat.le_trans HB2.out.size (Nat.le_trans hbA.size hg)
  have hgc : v10.heap.size ≤ g := Nat.le_trans hbA.size hg
  have HBu := Lib.hid (HB2.out.trans ((hbA.trans (hx.mono hbA.size)).mono HB2.out.size))
  have HRu := Lib.hid (Kd.R_below HR2.out (hbA.trans (hx.mono hbA.size)))
  have HC := Lib.hid hC
  obtain ⟨k16, f16⟩ := hC.slot
  clear hC hx hbA hrow hGA hg HR2 HB2
  go_wp2_with fail
  refine (setExts g A xs.length m u k16 f16).mono ?_
  rintro e w' ⟨rfl, rfl⟩
  clear k16 f16
  go_wp2_with fail
  refine bodyPost_ret (v := .tuple #[.iface 90 (.pointer (some ⟨g, 0, none⟩)), .nilIface]) ?h1 rfl ⟨g, _, .slice A xs.length m, rfl, below_st HBu.out hgl 16 _, hgl, HC.out.setX _, .inl ⟨rfl, rfl⟩, Kd.R_reads (Kd.R_far (p := ⟨g, 16, none⟩) HRu.out (fun _ hk => by simp only; omega) _)⟩
  case h1 => simp [results, Tryz.results47, go_sem]

set_option maxRecDepth 100000 in
set_option maxHeartbeats 4000000 in
theorem unmOk2A (raw0 raw w0 w2 w4 ra : ByteArray) (tcpB six : Bool) (q0 q1 q2 q3 q4 q5 q6 q7 q8 comp prio port rp : Nat)
    (hp : ∀ W, Calls Tryz.prog 63 #[.string raw0, .string ⟨#[99, 97, 110, 100, 105, 100, 97, 116, 101, 58]⟩] W fun e w' => e = .returned (.string raw) ∧ W = w')
    (R0 : ∀ W, Calls Tryz.prog 64 #[.string raw, .int .i64 0, .int .i64 32] W fun e w' => e = .returned (.tuple #[.string w0, .int .i64 (q0 : Int), .nilIface]) ∧ Below W.heap.size W w')
    (R1 : ∀ W, Calls Tryz.prog 65 #[.string raw, .int .i64 (q0 : Int)] W fun e w' => e = .returned (.tuple #[.int .u16 (comp : Int), .int .i64 (q1 : Int), .nilIface]) ∧ Below W.heap.size W w')
    (R2 : ∀ W, Calls Tryz.prog 66 #[.string raw, .int .i64 (q1 : Int)] W fun e w' => e = .returned (.tuple #[.string w2, .int .i64 (q2 : Int)]) ∧ Below W.heap.size W w')
    (R3 : ∀ W, Calls Tryz.prog 67 #[.string raw, .int .i64 (q2 : Int)] W fun e w' => e = .returned (.tuple #[.int .u32 (prio : Int), .int .i64 (q3 : Int), .nilIface]) ∧ Below W.heap.size W w')
    (R4 : ∀ W, Calls Tryz.prog 66 #[.string raw, .int .i64 (q3 : Int)] W fun e w' => e = .returned (.tuple #[.string w4, .int .i64 (q4 : Int)]) ∧ Below W.heap.size W w')
    (R5 : ∀ W, Calls Tryz.prog 69 #[.string raw, .int .i64 (q4 : Int)] W fun e w' => e = .returned (.tuple #[.int .i64 (port : Int), .int .i64 (q5 : Int), .nilIface]) ∧ Below W.heap.size W w')
    (R6 : ∀ W, Calls Tryz.prog 66 #[.string raw, .int .i64 (q5 : Int)] W fun e w' => e = .returned (.tuple #[.string ⟨#[116, 121, 112]⟩, .int .i64 (q6 : Int)]) ∧ Below W.heap.size W w')
    (R7 : ∀ W, Calls Tryz.prog 66 #[.string raw, .int .i64 (q6 : Int)] W fun e w' => e = .returned (.tuple #[.string ⟨#[115, 114, 102, 108, 120]⟩, .int .i64 (q7 : Int)]) ∧ Below W.heap.size W w')
    (R8 : ∀ W, Calls Tryz.prog 70 #[.string raw, .int .i64 (q7 : Int)] W fun e w' => e = .returned (.tuple #[.string ra, .int .i64 (rp : Int), .int .i64 (q8 : Int), .nilIface]) ∧ Below W.heap.size W w')
    (RZ : ∀ W, Calls Tryz.prog 68 #[.string w4] W fun e w' => e = .returned (.string w4) ∧ W = w')
    (h0 : 0 < w0.size) (l0 : q0 < raw.size) (l1 : q1 < raw.size) (l2 : q2 < raw.size) (l3 : q3 < raw.size) (l4 : q4 < raw.size) (l5 : q5 < raw.size) (l6 : q6 < raw.size)
    (l8 : q8 = raw.size)
    (hn : netName tcpB w2) (ha : addrText six w4) (hs : w4.size ≤ maxLen) (hpo : port ≤ 65535)
    (w : World) (p4 p6 : Addr) (hG : Glob w p4 p6) :
    Calls Tryz.prog 47 #[.string raw0] w fun e w' => ∃ (g : Nat) (rel : Option Addr) (v : Value), e = .returned (.tuple #[.iface 97 (.pointer (some ⟨g, 0, none⟩)), .nilIface]) ∧ Below w.heap.size w w' ∧ w.heap.size ≤ g ∧
      CandAt w' 2 g { typ := 2, net := netNum tcpB six, comp := comp, port := port, tcp := 0, prio := prio, relay := 0, addr := w4, found := w0, exts := v } rel ∧ RelIs w' rel [⟨ra, rp⟩] ∧ RowX w' v [] := by
  have hne := notEmpty h0
  have j0 : decide ((raw.size : Int) ≤ q0) = false := decide_eq_false (by omega)
  have j1 : decide ((raw.size : Int) ≤ q1) = false := decide_eq_false (by omega)
  have j2 : decide ((raw.size : Int) ≤ q2) = false := decide_eq_false (by omega)
  have j3 : decide ((raw.size : Int) ≤ q3) = false := decide_eq_false (by omega)
  have j4 : decide ((raw.size : Int) ≤ q4) = false := decide_eq_false (by omega)
  have j5 : decide ((raw.size : Int) ≤ q5) = false := decide_eq_false (by omega)
  have j6 : decide ((raw.size : Int) ≤ q6) = false := decide_eq_false (by omega)
  subst l8
  have HN := Lib.hid hn
  have HA := Lib.hid ha
  clear hn ha
  go_enter Tryz.func47, Tryz.ntmps47
  go_wp2_with fail
  refine (hp _).mono ?_
  rintro e w' ⟨rfl, rfl⟩
  clear hp
  go_wp2_with fail
  refine (R0 _).mono ?_
  rintro e v0 ⟨rfl, hb0⟩
  clear R0
  go_wp2_with fail
  refine (R1 _).mono ?_
  rintro e v1 ⟨rfl, hx⟩
  have hb1 := hb0.trans (hx.mono hb0.size)
  clear hx hb0
  clear R1
  go_wp2_with fail
  refine (R2 _).mono ?_
  rintro e v2 ⟨rfl, hx⟩
  have hb2 := hb1.trans (hx.mono hb1.size)
  clear hx hb1
  clear R2
  go_wp2_with fail
  refine (R3 _).mono ?_
  rintro e v3 ⟨rfl, hx⟩
  have hb3 := hb2.trans (hx.mono hb2.size)
  clear hx hb2
  clear R3
  go_wp2_with fail
  refine (R4 _).mono ?_
  rintro e v4 ⟨rfl, hx⟩
  have hb4 := hb3.trans (hx.mono hb3.size)
  clear hx hb3
  clear R4
  go_wp2_with fail
  refine (RZ _).mono ?_
  rintro e w' ⟨rfl, rfl⟩
  clear RZ
  go_wp2_with fail
  refine (R5 _).mono ?_
  rintro e v5 ⟨rfl, hx⟩
  have hb5 := hb4.trans (hx.mono hb4.size)
  clear hx hb4
  clear R5
  go_wp2_with fail
  refine (R6 _).mono ?_
  rintro e v6 ⟨rfl, hx⟩
  have hb6 := hb5.trans (hx.mono hb5.size)
  clear hx hb5
  clear R6
  go_wp2_with fail
  refine (R7 _).mono ?_
  rintro e v7 ⟨rfl, hx⟩
  have hb7 := hb6.trans (hx.mono hb6.size)
  clear hx hb6
  clear R7
  go_wp2_with fail
  refine (R8 _).mono ?_
  rintro e v8 ⟨rfl, hx⟩
  have hb8 := hb7.trans (hx.mono hb7.size)
  clear hx hb7
  clear R8
  have HR : Hid (Kd.R k62 115 v8 w.heap.size (fun k => k < v8.heap.size) (.slice none 0 0) []) := Lib.hid (Kd.R_nil _ _ _ _ _)
  have HB := Lib.hid hb8
  clear hb8
  go_wp2_with fail
  have hbA := below_al (Below.refl v8.heap.size v8) (Nat.le_refl _) (.cells #[.string ⟨#[]⟩, .string w2, .string w4, .int .i64 (port : Int), .int .u16 (comp : Int), .int .u32 (prio : Int), .string w0, .string ra, .int .i64 (rp : Int)] 102)
  have hrow := Row.new v8 102 #[.string ⟨#[]⟩, .string w2, .string w4, .int .i64 (port : Int), .int .u16 (comp : Int), .int .u32 (prio : Int), .string w0, .string ra, .int .i64 (rp : Int)]
  have hGA := (hG.below HB.out).below hbA
  refine (newSrflx (tcp := tcpB) (six := six) HN.out HA.out hs (port : Int) (comp : Int) (prio : Int) (rp : Int) w0 ra (by omega) (by omega) v8.heap.size _ p4 p6 hGA hrow).mono ?_
  rintro e u ⟨g, gr, rfl, hx, hg, hgr, hgn, hC, hrr⟩
  have hgl : w.heap.size ≤ g := Nat.le_trans HB.out.size (Nat.le_trans hbA.size hg)
  have hgc : v8.heap.size ≤ g := Nat.le_trans hbA.size hg
  have HBu := Lib.hid (HB.out.trans ((hbA.trans (hx.mono hbA.size)).mono HB.out.size))
  have HRu := Lib.hid (Kd.R_below HR.out (hbA.trans (hx.mono hbA.size)))
  have HC := Lib.hid hC
  have HRR := Lib.hid hrr
  obtain ⟨k16, f16⟩ := hC.slot
  clear hC hx hbA hrow hGA hg HR HB hrr hgr
  go_wp2_with fail
  refine (setExts g none 0 0 u k16 f16).mono ?_
  rintro e w' ⟨rfl, rfl⟩
  clear k16 f16
  go_wp2_with fail
  refine bodyPost_ret (v := .tuple #[.iface 97 (.pointer (some ⟨g, 0, none⟩)), .nilIface]) ?h1 rfl ⟨g, _, .slice none 0 0, rfl, below_st HBu.out hgl 16 _, hgl, HC.out.setX _, (.inr ⟨gr, ⟨ra, rp⟩, rfl, rfl, HRR.out.far (p := ⟨g, 16, none⟩) (by simp only; omega) _⟩), Kd.R_reads (Kd.R_far (p := ⟨g, 16, none⟩) HRu.out (fun _ hk => by simp only; omega) _)⟩
  case h1 => simp [results, Tryz.results47, go_sem]

set_option maxRecDepth 100000 in
set_option maxHeartbeats 4000000 in
theorem unmOk2B (raw0 raw w0 w2 w4 ra : ByteArray) (tcpB six : Bool) (q0 q1 q2 q3 q4 q5 q6 q7 q8 comp prio port rp : Nat)
    (hp : ∀ W, Calls Tryz.prog 63 #[.string raw0, .string ⟨#[99, 97, 110, 100, 105, 100, 97, 116, 101, 58]⟩] W fun e w' => e = .returned (.string raw) ∧ W = w')
    (R0 : ∀ W, Calls Tryz.prog 64 #[.string raw, .int .i64 0, .int .i64 32] W fun e w' => e = .returned (.tuple #[.string w0, .int .i64 (q0 : Int), .nilIface]) ∧ Below W.heap.size W w')
    (R1 : ∀ W, Calls Tryz.prog 65 #[.string raw, .int .i64 (q0 : Int)] W fun e w' => e = .returned (.tuple #[.int .u16 (comp : Int), .int .i64 (q1 : Int), .nilIface]) ∧ Below W.heap.size W w')
    (R2 : ∀ W, Calls Tryz.prog 66 #[.string raw, .int .i64 (q1 : Int)] W fun e w' => e = .returned (.tuple #[.string w2, .int .i64 (q2 : Int)]) ∧ Below W.heap.size W w')
    (R3 : ∀ W, Calls Tryz.prog 67 #[.string raw, .int .i64 (q2 : Int)] W fun e w' => e = .returned (.tuple #[.int .u32 (prio : Int), .int .i64 (q3 : Int), .nilIface]) ∧ Below W.heap.size W w')
    (R4 : ∀ W, Calls Tryz.prog 66 #[.string raw, .int .i64 (q3 : Int)] W fun e w' => e = .returned (.tuple #[.string w4, .int .i64 (q4 : Int)]) ∧ Below W.heap.size W w')
    (R5 : ∀ W, Calls Tryz.prog 69 #[.string raw, .int .i64 (q4 : Int)] W fun e w' => e = .returned (.tuple #[.int .i64 (port : Int), .int .i64 (q5 : Int), .nilIface]) ∧ Below W.heap.size W w')
    (R6 : ∀ W, Calls Tryz.prog 66 #[.string raw, .int .i64 (q5 : Int)] W fun e w' => e = .returned (.tuple #[.string ⟨#[116, 121, 112]⟩, .int .i64 (q6 : Int)]) ∧ Below W.heap.size W w')
    (R7 : ∀ W, Calls Tryz.prog 66 #[.string raw, .int .i64 (q6 : Int)] W fun e w' => e = .returned (.tuple #[.string ⟨#[115, 114, 102, 108, 120]⟩, .int .i64 (q7 : Int)]) ∧ Below W.heap.size W w')
    (R8 : ∀ W, Calls Tryz.prog 70 #[.string raw, .int .i64 (q7 : Int)] W fun e w' => e = .returned (.tuple #[.string ra, .int .i64 (rp : Int), .int .i64 (q8 : Int), .nilIface]) ∧ Below W.heap.size W w')
    (RZ : ∀ W, Calls Tryz.prog 68 #[.string w4] W fun e w' => e = .returned (.string w4) ∧ W = w')
    (h0 : 0 < w0.size) (l0 : q0 < raw.size) (l1 : q1 < raw.size) (l2 : q2 < raw.size) (l3 : q3 < raw.size) (l4 : q4 < raw.size) (l5 : q5 < raw.size) (l6 : q6 < raw.size)
    (l8 : q8 < raw.size) (sub : ByteArray) (hsl : ∀ W : World, (Instr.slice 9 (.string raw) (some (.int .i64 (q8 : Int))) none none).run Tryz.prog W = .ok (.string sub) W)
    (xs : List S62) (RE : ∀ W, Calls Tryz.prog 71 #[.string sub] W fun e w' => ∃ v, e = .returned (.tuple #[v, .string ⟨#[]⟩, .nilIface]) ∧ Kd.R k62 115 w' W.heap.size (fun _ => True) v xs ∧ Below W.heap.size W w')
    (hn : netName tcpB w2) (ha : addrText six w4) (hs : w4.size ≤ maxLen) (hpo : port ≤ 65535)
    (w : World) (p4 p6 : Addr) (hG : Glob w p4 p6) :
    Calls Tryz.prog 47 #[.string raw0] w fun e w' => ∃ (g : Nat) (rel : Option Addr) (v : Value), e = .returned (.tuple #[.iface 97 (.pointer (some ⟨g, 0, none⟩)), .nilIface]) ∧ Below w.heap.size w w' ∧ w.heap.size ≤ g ∧
      CandAt w' 2 g { typ := 2, net := netNum tcpB six, comp := comp, port := port, tcp := 0, prio := prio, relay := 0, addr := w4, found := w0, exts := v } rel ∧ RelIs w' rel [⟨ra, rp⟩] ∧ RowX w' v xs := by
  have hne := notEmpty h0
  have j0 : decide ((raw.size : Int) ≤ q0) = false := decide_eq_false (by omega)
  have j1 : decide ((raw.size : Int) ≤ q1) = false := decide_eq_false (by omega)
  have j2 : decide ((raw.size : Int) ≤ q2) = false := decide_eq_false (by omega)
  have j3 : decide ((raw.size : Int) ≤ q3) = false := decide_eq_false (by omega)
  have j4 : decide ((raw.size : Int) ≤ q4) = false := decide_eq_false (by omega)
  have j5 : decide ((raw.size : Int) ≤ q5) = false := decide_eq_false (by omega)
  have j6 : decide ((raw.size : Int) ≤ q6) = false := decide_eq_false (by omega)
  have j8 : decide ((q8 : Int) < raw.size) = true := decide_eq_true (by omega)
  have HN := Lib.hid hn
  have HA := Lib.hid ha
  clear hn ha
  go_enter Tryz.func47, Tryz.ntmps47
  go_wp2_with fail
  refine (hp _).mono ?_
  rintro e w' ⟨rfl, rfl⟩
  clear hp
  go_wp2_with fail
  refine (R0 _).mono ?_
  rintro e v0 ⟨rfl, hb0⟩
  clear R0
  go_wp2_with fail
  refine (R1 _).mono ?_
  rintro e v1 ⟨rfl, hx⟩
  have hb1 := hb0.trans (hx.mono hb0.size)
  clear hx hb0
  clear R1
  go_wp2_with fail
  refine (R2 _).mono ?_
  rintro e v2 ⟨rfl, hx⟩
  have hb2 := hb1.trans (hx.mono hb1.size)
  clear hx hb1
  clear R2
  go_wp2_with fail
  refine (R3 _).mono ?_
  rintro e v3 ⟨rfl, hx⟩
  have hb3 := hb2.trans (hx.mono hb2.size)
  clear hx hb2
  clear R3
  go_wp2_with fail
  refine (R4 _).mono ?_
  rintro e v4 ⟨rfl, hx⟩
  have hb4 := hb3.trans (hx.mono hb3.size)
  clear hx hb3
  clear R4
  go_wp2_with fail
  refine (RZ _).mono ?_
  rintro e w' ⟨rfl, rfl⟩
  clear RZ
  go_wp2_with fail
  refine (R5 _).mono ?_
  rintro e v5 ⟨rfl, hx⟩
  have hb5 := hb4.trans (hx.mono hb4.size)
  clear hx hb4
  clear R5
  go_wp2_with fail
  refine (R6 _).mono ?_
  rintro e v6 ⟨rfl, hx⟩
  have hb6 := hb5.trans (hx.mono hb5.size)
  clear hx hb5
  clear R6
  go_wp2_with fail
  refine (R7 _).mono ?_
  rintro e v7 ⟨rfl, hx⟩
  have hb7 := hb6.trans (hx.mono hb6.size)
  clear hx hb6
  clear R7
  go_wp2_with fail
  refine (R8 _).mono ?_
  rintro e v8 ⟨rfl, hx⟩
  have hb8 := hb7.trans (hx.mono hb7.size)
  clear hx hb7
  clear R8
  go_wp2_with fail
  refine (RE _).mono ?_
  rintro e v9 ⟨v, rfl, hR, hx⟩
  obtain ⟨A, m, rfl⟩ := Kd.R_slice hR
  have HR : Hid (Kd.R k62 115 v9 w.heap.size (fun k => k < v9.heap.size) (.slice A xs.length m) xs) := Lib.hid (Kd.R_mono (Kd.R_bound (Kd.R_lower hR hb8.size)) (fun _ hk => hk.2.2.1))
  have HB := Lib.hid (hb8.trans (hx.mono hb8.size))
  clear hb8 hx hR RE
  go_wp2_with fail
  have hbA := below_al (Below.refl v9.heap.size v9) (Nat.le_refl _) (.cells #[.string ⟨#[]⟩, .string w2, .string w4, .int .i64 (port : Int), .int .u16 (comp : Int), .int .u32 (prio : Int), .string w0, .string ra, .int .i64 (rp : Int)] 102)
  have hrow := Row.new v9 102 #[.string ⟨#[]⟩, .string w2, .string w4, .int .i64 (port : Int), .int .u16 (comp : Int), .int .u32 (prio : Int), .string w0, .string ra, .int .i64 (rp : Int)]
  have hGA := (hG.below HB.out).below hbA
  refine (newSrflx (tcp := tcpB) (six := six) HN.out HA.out hs (port : Int) (comp : Int) (prio : Int) (rp : Int) w0 ra (by omega) (by omega) v9.heap.size _ p4 p6 hGA hrow).mono ?_
  rintro e u ⟨g, gr, rfl, hx, hg, hgr, hgn, hC, hrr⟩
  have hgl : w.heap.size ≤ g := Nat.le_trans HB.out.size (Nat.le_trans hbA.size hg)
  have hgc : v9.heap.size ≤ g := Nat.le_trans hbA.size hg
  have HBu := Lib.hid (HB.out.trans ((hbA.trans (hx.mono hbA.size)).mono HB.out.size))
  have HRu := Lib.hid (Kd.R_below HR.out (hbA.trans (hx.mono hbA.size)))
  have HC := Lib.hid hC
  have HRR := Lib.hid hrr
  obtain ⟨k16, f16⟩ := hC.slot
  clear hC hx hbA hrow hGA hg HR HB hrr hgr
  go_wp2_with fail
  refine (setExts g A xs.length m u k16 f16).mono ?_
  rintro e w' ⟨rfl, rfl⟩
  clear k16 f16
  go_wp2_with fail
  refine bodyPost_ret (v := .tuple #[.iface 97 (.pointer (some ⟨g, 0, none⟩)), .nilIface]) ?h1 rfl ⟨g, _, .slice A xs.length m, rfl, below_st HBu.out hgl 16 _, hgl, HC.out.setX _, (.inr ⟨gr, ⟨ra, rp⟩, rfl, rfl, HRR.out.far (p := ⟨g, 16, none⟩) (by simp only; omega) _⟩), Kd.R_reads (Kd.R_far (p := ⟨g, 16, none⟩) HRu.out (fun _ hk => by simp only; omega) _)⟩
  case h1 => simp [results, Tryz.results47, go_sem]

set_option maxRecDepth 100000 in
set_option maxHeartbeats 4000000 in
theorem unmOk3A (raw0 raw w0 w2 w4 ra : ByteArray) (tcpB six : Bool) (q0 q1 q2 q3 q4 q5 q6 q7 q8 comp prio port rp : Nat)
    (hp : ∀ W, Calls Tryz.prog 63 #[.string raw0, .string ⟨#[99, 97, 110, 100, 105, 100, 97, 116, 101, 58]⟩] W fun e w' => e = .returned (.string raw) ∧ W = w')
    (R0 : ∀ W, Calls Tryz.prog 64 #[.string raw, .int .i64 0, .int .i64 32] W fun e w' => e = .returned (.tuple #[.string w0, .int .i64 (q0 : Int), .nilIface]) ∧ Below W.heap.size W w')
    (R1 : ∀ W, Calls Tryz.prog 65 #[.string raw, .int .i64 (q0 : Int)] W fun e w' => e = .returned (.tuple #[.int .u16 (comp : Int), .int .i64 (q1 : Int), .nilIface]) ∧ Below W.heap.size W w')
    (R2 : ∀ W, Calls Tryz.prog 66 #[.string raw, .int .i64 (q1 : Int)] W fun e w' => e = .returned (.tuple #[.string w2, .int .i64 (q2 : Int)]) ∧ Below W.heap.size W w')
    (R3 : ∀ W, Calls Tryz.prog 67 #[.string raw, .int .i64 (q2 : Int)] W fun e w' => e = .returned (.tuple #[.int .u32 (prio : Int), .int .i64 (q3 : Int), .nilIface]) ∧ Below W.heap.size W w')
    (R4 : ∀ W, Calls Tryz.prog 66 #[.string raw, .int .i64 (q3 : Int)] W fun e w' => e = .returned (.tuple #[.string w4, .int .i64 (q4 : Int)]) ∧ Below W.heap.size W w')
    (R5 : ∀ W, Calls Tryz.prog 69 #[.string raw, .int .i64 (q4 : Int)] W fun e w' => e = .returned (.tuple #[.int .i64 (port : Int), .int .i64 (q5 : Int), .nilIface]) ∧ Below W.heap.size W w')
    (R6 : ∀ W, Calls Tryz.prog 66 #[.string raw, .int .i64 (q5 : Int)] W fun e w' => e = .returned (.tuple #[.string ⟨#[116, 121, 112]⟩, .int .i64 (q6 : Int)]) ∧ Below W.heap.size W w')
    (R7 : ∀ W, Calls Tryz.prog 66 #[.string raw, .int .i64 (q6 : Int)] W fun e w' => e = .returned (.tuple #[.string ⟨#[112, 114, 102, 108, 120]⟩, .int .i64 (q7 : Int)]) ∧ Below W.heap.size W w')
    (R8 : ∀ W, Calls Tryz.prog 70 #[.string raw, .int .i64 (q7 : Int)] W fun e w' => e = .returned (.tuple #[.string ra, .int .i64 (rp : Int), .int .i64 (q8 : Int), .nilIface]) ∧ Below W.heap.size W w')
    (RZ : ∀ W, Calls Tryz.prog 68 #[.string w4] W fun e w' => e = .returned (.string w4) ∧ W = w')
    (h0 : 0 < w0.size) (l0 : q0 < raw.size) (l1 : q1 < raw.size) (l2 : q2 < raw.size) (l3 : q3 < raw.size) (l4 : q4 < raw.size) (l5 : q5 < raw.size) (l6 : q6 < raw.size)
    (l8 : q8 = raw.size)
    (hn : netName tcpB w2) (ha : addrText six w4) (hs : w4.size ≤ maxLen) (hpo : port ≤ 65535)
    (w : World) (p4 p6 : Addr) (hG : Glob w p4 p6) :
    Calls Tryz.prog 47 #[.string raw0] w fun e w' => ∃ (g : Nat) (rel : Option Addr) (v : Value), e = .returned (.tuple #[.iface 103 (.pointer (some ⟨g, 0, none⟩)), .nilIface]) ∧ Below w.heap.size w w' ∧ w.heap.size ≤ g ∧
      CandAt w' 3 g { typ := 3, net := netNum tcpB six, comp := comp, port := port, tcp := 0, prio := prio, relay := 0, addr := w4, found := w0, exts := v } rel ∧ RelIs w' rel [⟨ra, rp⟩] ∧ RowX w' v [] := by
  have hne := notEmpty h0
  have j0 : decide ((raw.size : Int) ≤ q0) = false := decide_eq_false (by omega)
  have j1 : decide ((raw.size : Int) ≤ q1) = false := decide_eq_false (by omega)
  have j2 : decide ((raw.size : Int) ≤ q2) = false := decide_eq_false (by omega)
  have j3 : decide ((raw.size : Int) ≤ q3) = false := decide_eq_false (by omega)
  have j4 : decide ((raw.size : Int) ≤ q4) = false := decide_eq_false (by omega)
  have j5 : decide ((raw.size : Int) ≤ q5) = false := decide_eq_false (by omega)
  have j6 : decide ((raw.size : Int) ≤ q6) = false := decide_eq_false (by omega)
  subst l8
  have HN := Lib.hid hn
  have HA := Lib.hid ha
  clear hn ha
  go_enter Tryz.func47, Tryz.ntmps47
  go_wp2_with fail
  refine (hp _).mono ?_
  rintro e w' ⟨rfl, rfl⟩
  clear hp
  go_wp2_with fail
  refine (R0 _).mono ?_
  rintro e v0 ⟨rfl, hb0⟩
  clear R0
  go_wp2_with fail
  refine (R1 _).mono ?_
  rintro e v1 ⟨rfl, hx⟩
  have hb1 := hb0.trans (hx.mono hb0.size)
  clear hx hb0
  clear R1
  go_wp2_with fail
  refine (R2 _).mono ?_
  rintro e v2 ⟨rfl, hx⟩
  have hb2 := hb1.trans (hx.mono hb1.size)
  clear hx hb1
  clear R2
  go_wp2_with fail
  refine (R3 _).mono ?_
  rintro e v3 ⟨rfl, hx⟩
  have hb3 := hb2.trans (hx.mono hb2.size)
  clear hx hb2
  clear R3
  go_wp2_with fail
  refine (R4 _).mono ?_
  rintro e v4 ⟨rfl, hx⟩
  have hb4 := hb3.trans (hx.mono hb3.size)
  clear hx hb3
  clear R4
  go_wp2_with fail
  refine (RZ _).mono ?_
  rintro e w' ⟨rfl, rfl⟩
  clear RZ
  go_wp2_with fail
  refine (R5 _).mono ?_
  rintro e v5 ⟨rfl, hx⟩
  have hb5 := hb4.trans (hx.mono hb4.size)
  clear hx hb4
  clear R5
  go_wp2_with fail
  refine (R6 _).mono ?_
  rintro e v6 ⟨rfl, hx⟩
  have hb6 := hb5.trans (hx.mono hb5.size)
  clear hx hb5
  clear R6
  go_wp2_with fail
  refine (R7 _).mono ?_
  rintro e v7 ⟨rfl, hx⟩
  have hb7 := hb6.trans (hx.mono hb6.size)
  clear hx hb6
  clear R7
  go_wp2_with fail
  refine (R8 _).mono ?_
  rintro e v8 ⟨rfl, hx⟩
  have hb8 := hb7.trans (hx.mono hb7.size)
  clear hx hb7
  clear R8
  have HR : Hid (Kd.R k62 115 v8 w.heap.size (fun k => k < v8.heap.size) (.slice none 0 0) []) := Lib.hid (Kd.R_nil _ _ _ _ _)
  have HB := Lib.hid hb8
  clear hb8
  go_wp2_with fail
  have hbA := below_al (Below.refl v8.heap.size v8) (Nat.le_refl _) (.cells #[.string ⟨#[]⟩, .string w2, .string w4, .int .i64 (port : Int), .int .u16 (comp : Int), .int .u32 (prio : Int), .string w0, .string ra, .int .i64 (rp : Int)] 107)
  have hrow := Row.new v8 107 #[.string ⟨#[]⟩, .string w2, .string w4, .int .i64 (port : Int), .int .u16 (comp : Int), .int .u32 (prio : Int), .string w0, .string ra, .int .i64 (rp : Int)]
  have hGA := (hG.below HB.out).below hbA
  refine (newPrflx (tcp := tcpB) (six := six) HN.out HA.out hs (port : Int) (comp : Int) (prio : Int) (rp : Int) w0 ra (by omega) (by omega) v8.heap.size _ p4 p6 hGA hrow).mono ?_
  rintro e u ⟨g, gr, rfl, hx, hg, hgr, hgn, hC, hrr⟩
  have hgl : w.heap.size ≤ g := Nat.le_trans HB.out.size (Nat.le_trans hbA.size hg)
  have hgc : v8.heap.size ≤ g := Nat.le_trans hbA.size hg
  have HBu := Lib.hid (HB.out.trans ((hbA.trans (hx.mono hbA.size)).mono HB.out.size))
  have HRu := Lib.hid (Kd.R_below HR.out (hbA.trans (hx.mono hbA.size)))
  have HC := Lib.hid hC
  have HRR := Lib.hid hrr
  obtain ⟨k16, f16⟩ := hC.slot
  clear hC hx hbA hrow hGA hg HR HB hrr hgr
  go_wp2_with fail
  refine (setExts g none 0 0 u k16 f16).mono ?_
  rintro e w' ⟨rfl, rfl⟩
  clear k16 f16
  go_wp2_with fail
  refine bodyPost_ret (v := .tuple #[.iface 103 (.pointer (some ⟨g, 0, none⟩)), .nilIface]) ?h1 rfl ⟨g, _, .slice none 0 0, rfl, below_st HBu.out hgl 16 _, hgl, HC.out.setX _, (.inr ⟨gr, ⟨ra, rp⟩, rfl, rfl, HRR.out.far (p := ⟨g, 16, none⟩) (by simp only; omega) _⟩), Kd.R_reads (Kd.R_far (p := ⟨g, 16, none⟩) HRu.out (fun _ hk => by simp only; omega) _)⟩
  case h1 => simp [results, Tryz.results47, go_sem]

set_option maxRecDepth 100000 in
set_option maxHeartbeats 4000000 in
theorem unmOk3B (raw0 raw w0 w2 w4 ra : ByteArray) (tcpB six : Bool) (q0 q1 q2 q3 q4 q5 q6 q7 q8 comp prio port rp : Nat)
    (hp : ∀ W, Calls Tryz.prog 63 #[.string raw0, .string ⟨#[99, 97, 110, 100, 105, 100, 97, 116, 101, 58]⟩] W fun e w' => e = .returned (.string raw) ∧ W = w')
    (R0 : ∀ W, Calls Tryz.prog 64 #[.string raw, .int .i64 0, .int .i64 32] W fun e w' => e = .returned (.tuple #[.string w0, .int .i64 (q0 : Int), .nilIface]) ∧ Below W.heap.size W w')
    (R1 : ∀ W, Calls Tryz.prog 65 #[.string raw, .int .i64 (q0 : Int)] W fun e w' => e = .returned (.tuple #[.int .u16 (comp : Int), .int .i64 (q1 : Int), .nilIface]) ∧ Below W.heap.size W w')
    (R2 : ∀ W, Calls Tryz.prog 66 #[.string raw, .int .i64 (q1 : Int)] W fun e w' => e = .returned (.tuple #[.string w2, .int .i64 (q2 : Int)]) ∧ Below W.heap.size W w')
    (R3 : ∀ W, Calls Tryz.prog 67 #[.string raw, .int .i64 (q2 : Int)] W fun e w' => e = .returned (.tuple #[.int .u32 (prio : Int), .int .i64 (q3 : Int), .nilIface]) ∧ Below W.heap.size W w')
    (R4 : ∀ W, Calls Tryz.prog 66 #[.string raw, .int .i64 (q3 : Int)] W fun e w' => e = .returned (.tuple #[.string w4, .int .i64 (q4 : Int)]) ∧ Below W.heap.size W w')
    (R5 : ∀ W, Calls Tryz.prog 69 #[.string raw, .int .i64 (q4 : Int)] W fun e w' => e = .returned (.tuple #[.int .i64 (port : Int), .int .i64 (q5 : Int), .nilIface]) ∧ Below W.heap.size W w')
    (R6 : ∀ W, Calls Tryz.prog 66 #[.string raw, .int .i64 (q5 : Int)] W fun e w' => e = .returned (.tuple #[.string ⟨#[116, 121, 112]⟩, .int .i64 (q6 : Int)]) ∧ Below W.heap.size W w')
    (R7 : ∀ W, Calls Tryz.prog 66 #[.string raw, .int .i64 (q6 : Int)] W fun e w' => e = .returned (.tuple #[.string ⟨#[112, 114, 102, 108, 120]⟩, .int .i64 (q7 : Int)]) ∧ Below W.heap.size W w')
    (R8 : ∀ W, Calls Tryz.prog 70 #[.string raw, .int .i64 (q7 : Int)] W fun e w' => e = .returned (.tuple #[.string ra, .int .i64 (rp : Int), .int .i64 (q8 : Int), .nilIface]) ∧ Below W.heap.size W w')
    (RZ : ∀ W, Calls Tryz.prog 68 #[.string w4] W fun e w' => e = .returned (.string w4) ∧ W = w')
    (h0 : 0 < w0.size) (l0 : q0 < raw.size) (l1 : q1 < raw.size) (l2 : q2 < raw.size) (l3 : q3 < raw.size) (l4 : q4 < raw.size) (l5 : q5 < raw.size) (l6 : q6 < raw.size)
    (l8 : q8 < raw.size) (sub : ByteArray) (hsl : ∀ W : World, (Instr.slice 9 (.string raw) (some (.int .i64 (q8 : Int))) none none).run Tryz.prog W = .ok (.string sub) W)
    (xs : List S62) (RE : ∀ W, Calls Tryz.prog 71 #[.string sub] W fun e w' => ∃ v, e = .returned (.tuple #[v, .string ⟨#[]⟩, .nilIface]) ∧ Kd.R k62 115 w' W.heap.size (fun _ => True) v xs ∧ Below W.heap.size W w')
    (hn : netName tcpB w2) (ha : addrText six w4) (hs : w4.size ≤ maxLen) (hpo : port ≤ 65535)
    (w : World) (p4 p6 : Addr) (hG : Glob w p4 p6) :
    Calls Tryz.prog 47 #[.string raw0] w fun e w' => ∃ (g : Nat) (rel : Option Addr) (v : Value), e = .returned (.tuple #[.iface 103 (.pointer (some ⟨g, 0, none⟩)), .nilIface]) ∧ Below w.heap.size w w' ∧ w.heap.size ≤ g ∧
      CandAt w' 3 g { typ := 3, net := netNum tcpB six, comp := comp, port := port, tcp := 0, prio := prio, relay := 0, addr := w4, found := w0, exts := v } rel ∧ RelIs w' rel [⟨ra, rp⟩] ∧ RowX w' v xs := by
  have hne := notEmpty h0
  have j0 : decide ((raw.size : Int) ≤ q0) = false := decide_eq_false (by omega)
  have j1 : decide ((raw.size : Int) ≤ q1) = false := decide_eq_false (by omega)
  have j2 : decide ((raw.size : Int) ≤ q2) = false := decide_eq_false (by omega)
  have j3 : decide ((raw.size : Int) ≤ q3) = false := decide_eq_false (by omega)
  have j4 : decide ((raw.size : Int) ≤ q4) = false := decide_eq_false (by omega)
  have j5 : decide ((raw.size : Int) ≤ q5) = false := decide_eq_false (by omega)
  have j6 : decide ((raw.size : Int) ≤ q6) = false := decide_eq_false (by omega)
  have j8 : decide ((q8 : Int) < raw.size) = true := decide_eq_true (by omega)
  have HN := Lib.hid hn
  have HA := Lib.hid ha
  clear hn ha
  go_enter Tryz.func47, Tryz.ntmps47
  go_wp2_with fail
  refine (hp _).mono ?_
  rintro e w' ⟨rfl, rfl⟩
  clear hp
  go_wp2_with fail
  refine (R0 _).mono ?_
  rintro e v0 ⟨rfl, hb0⟩
  clear R0
  go_wp2_with fail
  refine (R1 _).mono ?_
  rintro e v1 ⟨rfl, hx⟩
  have hb1 := hb0.trans (hx.mono hb0.size)
  clear hx hb0
  clear R1
  go_wp2_with fail
  refine (R2 _).mono ?_
  rintro e v2 ⟨rfl, hx⟩
  have hb2 := hb1.trans (hx.mono hb1.size)
  clear hx hb1
  clear R2
  go_wp2_with fail
  refine (R3 _).mono ?_
  rintro e v3 ⟨rfl, hx⟩
  have hb3 := hb2.trans (hx.mono hb2.size)
  clear hx hb2
  clear R3
  go_wp2_with fail
  refine (R4 _).mono ?_
  rintro e v4 ⟨rfl, hx⟩
  have hb4 := hb3.trans (hx.mono hb3.size)
  clear hx hb3
  clear R4
  go_wp2_with fail
  refine (RZ _).mono ?_
  rintro e w' ⟨rfl, rfl⟩
  clear RZ
  go_wp2_with fail
  refine (R5 _).mono ?_
  rintro e v5 ⟨rfl, hx⟩
  have hb5 := hb4.trans (hx.mono hb4.size)
  clear hx hb4
  clear R5
  go_wp2_with fail
  refine (R6 _).mono ?_
  rintro e v6 ⟨rfl, hx⟩
  have hb6 := hb5.trans (hx.mono hb5.size)
  clear hx hb5
  clear R6
  go_wp2_with fail
  refine (R7 _).mono ?_
  rintro e v7 ⟨rfl, hx⟩
  have hb7 := hb6.trans (hx.mono hb6.size)
  clear hx hb6
  clear R7
  go_wp2_with fail
  refine (R8 _).mono ?_
  rintro e v8 ⟨rfl, hx⟩
  have hb8 := hb7.trans (hx.mono hb7.size)
  clear hx hb7
  clear R8
  go_wp2_with fail
  refine (RE _).mono ?_
  rintro e v9 ⟨v, rfl, hR, hx⟩
  obtain ⟨A, m, rfl⟩ := Kd.R_slice hR
  have HR : Hid (Kd.R k62 115 v9 w.heap.size (fun k => k < v9.heap.size) (.slice A xs.length m) xs) := Lib.hid (Kd.R_mono (Kd.R_bound (Kd.R_lower hR hb8.size)) (fun _ hk => hk.2.2.1))
  have HB := Lib.hid (hb8.trans (hx.mono hb8.size))
  clear hb8 hx hR RE
  go_wp2_with fail
  have hbA := below_al (Below.refl v9.heap.size v9) (Nat.le_refl _) (.cells #[.string ⟨#[]⟩, .string w2, .string w4, .int .i64 (port : Int), .int .u16 (comp : Int), .int .u32 (prio : Int), .string w0, .string ra, .int .i64 (rp : Int)] 107)
  have hrow := Row.new v9 107 #[.string ⟨#[]⟩, .string w2, .string w4, .int .i64 (port : Int), .int .u16 (comp : Int), .int .u32 (prio : Int), .string w0, .string ra, .int .i64 (rp : Int)]
  have hGA := (hG.below HB.out).below hbA
  refine (newPrflx (tcp := tcpB) (six := six) HN.out HA.out hs (port : Int) (comp : Int) (prio : Int) (rp : Int) w0 ra (by omega) (by omega) v9.heap.size _ p4 p6 hGA hrow).mono ?_
  rintro e u ⟨g, gr, rfl, hx, hg, hgr, hgn, hC, hrr⟩
  have hgl : w.heap.size ≤ g := Nat.le_trans HB.out.size (Nat.le_trans hbA.size hg)
  have hgc : v9.heap.size ≤ g := Nat.le_trans hbA.size hg
  have HBu := Lib.hid (HB.out.trans ((hbA.trans (hx.mono hbA.size)).mono HB.out.size))
  have HRu := Lib.hid (Kd.R_below HR.out (hbA.trans (hx.mono hbA.size)))
  have HC := Lib.hid hC
  have HRR := Lib.hid hrr
  obtain ⟨k16, f16⟩ := hC.slot
  clear hC hx hbA hrow hGA hg HR HB hrr hgr
  go_wp2_with fail
  refine (setExts g A xs.length m u k16 f16).mono ?_
  rintro e w' ⟨rfl, rfl⟩
  clear k16 f16
  go_wp2_with fail
  refine bodyPost_ret (v := .tuple #[.iface 103 (.pointer (some ⟨g, 0, none⟩)), .nilIface]) ?h1 rfl ⟨g, _, .slice A xs.length m, rfl, below_st HBu.out hgl 16 _, hgl, HC.out.setX _, (.inr ⟨gr, ⟨ra, rp⟩, rfl, rfl, HRR.out.far (p := ⟨g, 16, none⟩) (by simp only; omega) _⟩), Kd.R_reads (Kd.R_far (p := ⟨g, 16, none⟩) HRu.out (fun _ hk => by simp only; omega) _)⟩
  case h1 => simp [results, Tryz.results47, go_sem]

set_option maxRecDepth 100000 in
set_option maxHeartbeats 4000000 in
theorem unmOk4A (raw0 raw w0 w2 w4 ra : ByteArray) (tcpB six : Bool) (q0 q1 q2 q3 q4 q5 q6 q7 q8 comp prio port rp : Nat)
    (hp : ∀ W, Calls Tryz.prog 63 #[.string raw0, .string ⟨#[99, 97, 110, 100, 105, 100, 97, 116, 101, 58]⟩] W fun e w' => e = .returned (.string raw) ∧ W = w')
    (R0 : ∀ W, Calls Tryz.prog 64 #[.string raw, .int .i64 0, .int .i64 32] W fun e w' => e = .returned (.tuple #[.string w0, .int .i64 (q0 : Int), .nilIface]) ∧ Below W.heap.size W w')
    (R1 : ∀ W, Calls Tryz.prog 65 #[.string raw, .int .i64 (q0 : Int)] W fun e w' => e = .returned (.tuple #[.int .u16 (comp : Int), .int .i64 (q1 : Int), .nilIface]) ∧ Below W.heap.size W w')
    (R2 : ∀ W, Calls Tryz.prog 66 #[.string raw, .int .i64 (q1 : Int)] W fun e w' => e = .returned (.tuple #[.string w2, .int .i64 (q2 : Int)]) ∧ Below W.heap.size W w')
    (R3 : ∀ W, Calls Tryz.prog 67 #[.string raw, .int .i64 (q2 : Int)] W fun e w' => e = .returned (.tuple #[.int .u32 (prio : Int), .int .i64 (q3 : Int), .nilIface]) ∧ Below W.heap.size W w')
    (R4 : ∀ W, Calls Tryz.prog 66 #[.string raw, .int .i64 (q3 : Int)] W fun e w' => e = .returned (.tuple #[.string w4, .int .i64 (q4 : Int)]) ∧ Below W.heap.size W w')
    (R5 : ∀ W, Calls Tryz.prog 69 #[.string raw, .int .i64 (q4 : Int)] W fun e w' => e = .returned (.tuple #[.int .i64 (port : Int), .int .i64 (q5 : Int), .nilIface]) ∧ Below W.heap.size W w')
    (R6 : ∀ W, Calls Tryz.prog 66 #[.string raw, .int .i64 (q5 : Int)] W fun e w' => e = .returned (.tuple #[.string ⟨#[116, 121, 112]⟩, .int .i64 (q6 : Int)]) ∧ Below W.heap.size W w')
    (R7 : ∀ W, Calls Tryz.prog 66 #[.string raw, .int .i64 (q6 : Int)] W fun e w' => e = .returned (.tuple #[.string ⟨#[114, 101, 108, 97, 121]⟩, .int .i64 (q7 : Int)]) ∧ Below W.heap.size W w')
    (R8 : ∀ W, Calls Tryz.prog 70 #[.string raw, .int .i64 (q7 : Int)] W fun e w' => e = .returned (.tuple #[.string ra, .int .i64 (rp : Int), .int .i64 (q8 : Int), .nilIface]) ∧ Below W.heap.size W w')
    (RZ : ∀ W, Calls Tryz.prog 68 #[.string w4] W fun e w' => e = .returned (.string w4) ∧ W = w')
    (h0 : 0 < w0.size) (l0 : q0 < raw.size) (l1 : q1 < raw.size) (l2 : q2 < raw.size) (l3 : q3 < raw.size) (l4 : q4 < raw.size) (l5 : q5 < raw.size) (l6 : q6 < raw.size)
    (l8 : q8 = raw.size)
    (hn : netName tcpB w2) (ha : addrText six w4) (hs : w4.size ≤ maxLen) (hpo : port ≤ 65535)
    (w : World) (p4 p6 : Addr) (hG : Glob w p4 p6) :
    Calls Tryz.prog 47 #[.string raw0] w fun e w' => ∃ (g : Nat) (rel : Option Addr) (v : Value), e = .returned (.tuple #[.iface 108 (.pointer (some ⟨g, 0, none⟩)), .nilIface]) ∧ Below w.heap.size w w' ∧ w.heap.size ≤ g ∧
      CandAt w' 4 g { typ := 4, net := netNum tcpB six, comp := comp, port := port, tcp := 0, prio := prio, relay := 3, addr := w4, found := w0, exts := v } rel ∧ RelIs w' rel [⟨ra, rp⟩] ∧ RowX w' v [] := by
  have hne := notEmpty h0
  have j0 : decide ((raw.size : Int) ≤ q0) = false := decide_eq_false (by omega)
  have j1 : decide ((raw.size : Int) ≤ q1) = false := decide_eq_false (by omega)
  have j2 : decide ((raw.size : Int) ≤ q2) = false := decide_eq_false (by omega)
  have j3 : decide ((raw.size : Int) ≤ q3) = false := decide_eq_false (by omega)
  have j4 : decide ((raw.size : Int) ≤ q4) = false := decide_eq_false (by omega)
  have j5 : decide ((raw.size : Int) ≤ q5) = false := decide_eq_false (by omega)
  have j6 : decide ((raw.size : Int) ≤ q6) = false := decide_eq_false (by omega)
  subst l8
  have HN := Lib.hid hn
  have HA := Lib.hid ha
  clear hn ha
  go_enter Tryz.func47, Tryz.ntmps47
  go_wp2_with fail
  refine (hp _).mono ?_
  rintro e w' ⟨rfl, rfl⟩
  clear hp
  go_wp2_with fail
  refine (R0 _).mono ?_
  rintro e v0 ⟨rfl, hb0⟩
  clear R0
  go_wp2_with fail
  refine (R1 _).mono ?_
  rintro e v1 ⟨rfl, hx⟩
  have hb1 := hb0.trans (hx.mono hb0.size)
  clear hx hb0
  clear R1
  go_wp2_with fail
  refine (R2 _).mono ?_
  rintro e v2 ⟨rfl, hx⟩
  have hb2 := hb1.trans (hx.mono hb1.size)
  clear hx hb1
  clear R2
  go_wp2_with fail
  refine (R3 _).mono ?_
  rintro e v3 ⟨rfl, hx⟩
  have hb3 := hb2.trans (hx.mono hb2.size)
  clear hx hb2
  clear R3
  go_wp2_with fail
  refine (R4 _).mono ?_
  rintro e v4 ⟨rfl, hx⟩
  have hb4 := hb3.trans (hx.mono hb3.size)
  clear hx hb3
  clear R4
  go_wp2_with fail
  refine (RZ _).mono ?_
  rintro e w' ⟨rfl, rfl⟩
  clear RZ
  go_wp2_with fail
  refine (R5 _).mono ?_
  rintro e v5 ⟨rfl, hx⟩
  have hb5 := hb4.trans (hx.mono hb4.size)
  clear hx hb4
  clear R5
  go_wp2_with fail
  refine (R6 _).mono ?_
  rintro e v6 ⟨rfl, hx⟩
  have hb6 := hb5.trans (hx.mono hb5.size)
  clear hx hb5
  clear R6
  go_wp2_with fail
  refine (R7 _).mono ?_
  rintro e v7 ⟨rfl, hx⟩
  have hb7 := hb6.trans (hx.mono hb6.size)
  clear hx hb6
  clear R7
  go_wp2_with fail
  refine (R8 _).mono ?_
  rintro e v8 ⟨rfl, hx⟩
  have hb8 := hb7.trans (hx.mono hb7.size)
  clear hx hb7
  clear R8
  have HR : Hid (Kd.R k62 115 v8 w.heap.size (fun k => k < v8.heap.size) (.slice none 0 0) []) := Lib.hid (Kd.R_nil _ _ _ _ _)
  have HB := Lib.hid hb8
  clear hb8
  go_wp2_with fail
  have hbA := below_al (Below.refl v8.heap.size v8) (Nat.le_refl _) (.cells #[.string ⟨#[]⟩, .string w2, .string w4, .int .i64 (port : Int), .int .u16 (comp : Int), .int .u32 (prio : Int), .string w0, .string ra, .int .i64 (rp : Int), .string ⟨#[]⟩] 113)
  have hrow := Row.new v8 113 #[.string ⟨#[]⟩, .string w2, .string w4, .int .i64 (port : Int), .int .u16 (comp : Int), .int .u32 (prio : Int), .string w0, .string ra, .int .i64 (rp : Int), .string ⟨#[]⟩]
  have hGA := (hG.below HB.out).below hbA
  refine (newRelay (tcp := tcpB) (six := six) HN.out HA.out hs (port : Int) (comp : Int) (prio : Int) (rp : Int) w0 ra (by omega) (by omega) v8.heap.size _ p4 p6 hGA hrow).mono ?_
  rintro e u ⟨g, gr, rfl, hx, hg, hgr, hgn, hC, hrr⟩
  have hgl : w.heap.size ≤ g := Nat.le_trans HB.out.size (Nat.le_trans hbA.size hg)
  have hgc : v8.heap.size ≤ g := Nat.le_trans hbA.size hg
  have HBu := Lib.hid (HB.out.trans ((hbA.trans (hx.mono hbA.size)).mono HB.out.size))
  have HRu := Lib.hid (Kd.R_below HR.out (hbA.trans (hx.mono hbA.size)))
  have HC := Lib.hid hC
  have HRR := Lib.hid hrr
  obtain ⟨k16, f16⟩ := hC.slot
  clear hC hx hbA hrow hGA hg HR HB hrr hgr
  go_wp2_with fail
  refine (setExts g none 0 0 u k16 f16).mono ?_
  rintro e w' ⟨rfl, rfl⟩
  clear k16 f16
  go_wp2_with fail
  refine bodyPost_ret (v := .tuple #[.iface 108 (.pointer (some ⟨g, 0, none⟩)), .nilIface]) ?h1 rfl ⟨g, _, .slice none 0 0, rfl, below_st HBu.out hgl 16 _, hgl, HC.out.setX _, (.inr ⟨gr, ⟨ra, rp⟩, rfl, rfl, HRR.out.far (p := ⟨g, 16, none⟩) (by simp only; omega) _⟩), Kd.R_reads (Kd.R_far (p := ⟨g, 16, none⟩) HRu.out (fun _ hk => by simp only; omega) _)⟩
  case h1 => simp [results, Tryz.results47, go_sem]

set_option maxRecDepth 100000 in
set_option maxHeartbeats 4000000 in
theorem unmOk4B (raw0 raw w0 w2 w4 ra : ByteArray) (tcpB six : Bool) (q0 q1 q2 q3 q4 q5 q6 q7 q8 comp prio port rp : Nat)
    (hp : ∀ W, Calls Tryz.prog 63 #[.string raw0, .string ⟨#[99, 97, 110, 100, 105, 100, 97, 116, 101, 58]⟩] W fun e w' => e = .returned (.string raw) ∧ W = w')
    (R0 : ∀ W, Calls Tryz.prog 64 #[.string raw, .int .i64 0, .int .i64 32] W fun e w' => e = .returned (.tuple #[.string w0, .int .i64 (q0 : Int), .nilIface]) ∧ Below W.heap.size W w')
    (R1 : ∀ W, Calls Tryz.prog 65 #[.string raw, .int .i64 (q0 : Int)] W fun e w' => e = .returned (.tuple #[.int .u16 (comp : Int), .int .i64 (q1 : Int), .nilIface]) ∧ Below W.heap.size W w')
    (R2 : ∀ W, Calls Tryz.prog 66 #[.string raw, .int .i64 (q1 : Int)] W fun e w' => e = .returned (.tuple #[.string w2, .int .i64 (q2 : Int)]) ∧ Below W.heap.size W w')
    (R3 : ∀ W, Calls Tryz.prog 67 #[.string raw, .int .i64 (q2 : Int)] W fun e w' => e = .returned (.tuple #[.int .u32 (prio : Int), .int .i64 (q3 : Int), .nilIface]) ∧ Below W.heap.size W w')
    (R4 : ∀ W, Calls Tryz.prog 66 #[.string raw, .int .i64 (q3 : Int)] W fun e w' => e = .returned (.tuple #[.string w4, .int .i64 (q4 : Int)]) ∧ Below W.heap.size W w')
    (R5 : ∀ W, Calls Tryz.prog 69 #[.string raw, .int .i64 (q4 : Int)] W fun e w' => e = .returned (.tuple #[.int .i64 (port : Int), .int .i64 (q5 : Int), .nilIface]) ∧ Below W.heap.size W w')
    (R6 : ∀ W, Calls Tryz.prog 66 #[.string raw, .int .i64 (q5 : Int)] W fun e w' => e = .returned (.tuple #[.string ⟨#[116, 121, 112]⟩, .int .i64 (q6 : Int)]) ∧ Below W.heap.size W w')
    (R7 : ∀ W, Calls Tryz.prog 66 #[.string raw, .int .i64 (q6 : Int)] W fun e w' => e = .returned (.tuple #[.string ⟨#[114, 101, 108, 97, 121]⟩, .int .i64 (q7 : Int)]) ∧ Below W.heap.size W w')
    (R8 : ∀ W, Calls Tryz.prog 70 #[.string raw, .int .i64 (q7 : Int)] W fun e w' => e = .returned (.tuple #[.string ra, .int .i64 (rp : Int), .int .i64 (q8 : Int), .nilIface]) ∧ Below W.heap.size W w')
    (RZ : ∀ W, Calls Tryz.prog 68 #[.string w4] W fun e w' => e = .returned (.string w4) ∧ W = w')
    (h0 : 0 < w0.size) (l0 : q0 < raw.size) (l1 : q1 < raw.size) (l2 : q2 < raw.size) (l3 : q3 < raw.size) (l4 : q4 < raw.size) (l5 : q5 < raw.size) (l6 : q6 < raw.size)
    (l8 : q8 < raw.size) (sub : ByteArray) (hsl : ∀ W : World, (Instr.slice 9 (.string raw) (some (.int .i64 (q8 : Int))) none none).run Tryz.prog W = .ok (.string sub) W)
    (xs : List S62) (RE : ∀ W, Calls Tryz.prog 71 #[.string sub] W fun e w' => ∃ v, e = .returned (.tuple #[v, .string ⟨#[]⟩, .nilIface]) ∧ Kd.R k62 115 w' W.heap.size (fun _ => True) v xs ∧ Below W.heap.size W w')
    (hn : netName tcpB w2) (ha : addrText six w4) (hs : w4.size ≤ maxLen) (hpo : port ≤ 65535)
    (w : World) (p4 p6 : Addr) (hG : Glob w p4 p6) :
    Calls Tryz.prog 47 #[.string raw0] w fun e w' => ∃ (g : Nat) (rel : Option Addr) (v : Value), e = .returned (.tuple #[.iface 108 (.pointer (some ⟨g, 0, none⟩)), .nilIface]) ∧ Below w.heap.size w w' ∧ w.heap.size ≤ g ∧
      CandAt w' 4 g { typ := 4, net := netNum tcpB six, comp := comp, port := port, tcp := 0, prio := prio, relay := 3, addr := w4, found := w0, exts := v } rel ∧ RelIs w' rel [⟨ra, rp⟩] ∧ RowX w' v xs := by
  have hne := notEmpty h0
  have j0 : decide ((raw.size : Int) ≤ q0) = false := decide_eq_false (by omega)
  have j1 : decide ((raw.size : Int) ≤ q1) = false := decide_eq_false (by omega)
  have j2 : decide ((raw.size : Int) ≤ q2) = false := decide_eq_false (by omega)
  have j3 : decide ((raw.size : Int) ≤ q3) = false := decide_eq_false (by omega)
  have j4 : decide ((raw.size : Int) ≤ q4) = false := decide_eq_false (by omega)
  have j5 : decide ((raw.size : Int) ≤ q5) = false := decide_eq_false (by omega)
  have j6 : decide ((raw.size : Int) ≤ q6) = false := decide_eq_false (by omega)
  have j8 : decide ((q8 : Int) < raw.size) = true := decide_eq_true (by omega)
  have HN := Lib.hid hn
  have HA := Lib.hid ha
  clear hn ha
  go_enter Tryz.func47, Tryz.ntmps47
  go_wp2_with fail
  refine (hp _).mono ?_
  rintro e w' ⟨rfl, rfl⟩
  clear hp
  go_wp2_with fail
  refine (R0 _).mono ?_
  rintro e v0 ⟨rfl, hb0⟩
  clear R0
  go_wp2_with fail
  refine (R1 _).mono ?_
  rintro e v1 ⟨rfl, hx⟩
  have hb1 := hb0.trans (hx.mono hb0.size)
  clear hx hb0
  clear R1
  go_wp2_with fail
  refine (R2 _).mono ?_
  rintro e v2 ⟨rfl, hx⟩
  have hb2 := hb1.trans (hx.mono hb1.size)
  clear hx hb1
  clear R2
  go_wp2_with fail
  refine (R3 _).mono ?_
  rintro e v3 ⟨rfl, hx⟩
  have hb3 := hb2.trans (hx.mono hb2.size)
  clear hx hb2
  clear R3
  go_wp2_with fail
  refine (R4 _).mono ?_
  rintro e v4 ⟨rfl, hx⟩
  have hb4 := hb3.trans (hx.mono hb3.size)
  clear hx hb3
  clear R4
  go_wp2_with fail
  refine (RZ _).mono ?_
  rintro e w' ⟨rfl, rfl⟩
  clear RZ
  go_wp2_with fail
  refine (R5 _).mono ?_
  rintro e v5 ⟨rfl, hx⟩
  have hb5 := hb4.trans (hx.mono hb4.size)
  clear hx hb4
  clear R5
  go_wp2_with fail
  refine (R6 _).mono ?_
  rintro e v6 ⟨rfl, hx⟩
  have hb6 := hb5.trans (hx.mono hb5.size)
  clear hx hb5
  clear R6
  go_wp2_with fail
  refine (R7 _).mono ?_
  rintro e v7 ⟨rfl, hx⟩
  have hb7 := hb6.trans (hx.mono hb6.size)
  clear hx hb6
  clear R7
  go_wp2_with fail
  refine (R8 _).mono ?_
  rintro e v8 ⟨rfl, hx⟩
  have hb8 := hb7.trans (hx.mono hb7.size)
  clear hx hb7
  clear R8
  go_wp2_with fail
  refine (RE _).mono ?_
  rintro e v9 ⟨v, rfl, hR, hx⟩
  obtain ⟨A, m, rfl⟩ := Kd.R_slice hR
  have HR : Hid (Kd.R k62 115 v9 w.heap.size (fun k => k < v9.heap.size) (.slice A xs.length m) xs) := Lib.hid (Kd.R_mono (Kd.R_bound (Kd.R_lower hR hb8.size)) (fun _ hk => hk.2.2.1))
  have HB := Lib.hid (hb8.trans (hx.mono hb8.size))
  clear hb8 hx hR RE
  go_wp2_with fail
  have hbA := below_al (Below.refl v9.heap.size v9) (Nat.le_refl _) (.cells #[.string ⟨#[]⟩, .string w2, .string w4, .int .i64 (port : Int), .int .u16 (comp : Int), .int .u32 (prio : Int), .string w0, .string ra, .int .i64 (rp : Int), .string ⟨#[]⟩] 113)
  have hrow := Row.new v9 113 #[.string ⟨#[]⟩, .string w2, .string w4, .int .i64 (port : Int), .int .u16 (comp : Int), .int .u32 (prio : Int), .string w0, .string ra, .int .i64 (rp : Int), .string ⟨#[]⟩]
  have hGA := (hG.below HB.out).below hbA
  refine (newRelay (tcp := tcpB) (six := six) HN.out HA.out hs (port : Int) (comp : Int) (prio : Int) (rp : Int) w0 ra (by omega) (by omega) v9.heap.size _ p4 p6 hGA hrow).mono ?_
  rintro e u ⟨g, gr, rfl, hx, hg, hgr, hgn, hC, hrr⟩
  have hgl : w.heap.size ≤ g := Nat.le_trans HB.out.size (Nat.le_trans hbA.size hg)
  have hgc : v9.heap.size ≤ g := Nat.le_trans hbA.size hg
  have HBu := Lib.hid (HB.out.trans ((hbA.trans (hx.mono hbA.size)).mono HB.out.size))
  have HRu := Lib.hid (Kd.R_below HR.out (hbA.trans (hx.mono hbA.size)))
  have HC := Lib.hid hC
  have HRR := Lib.hid hrr
  obtain ⟨k16, f16⟩ := hC.slot
  clear hC hx hbA hrow hGA hg HR HB hrr hgr
  go_wp2_with fail
  refine (setExts g A xs.length m u k16 f16).mono ?_
  rintro e w' ⟨rfl, rfl⟩
  clear k16 f16
  go_wp2_with fail
  refine bodyPost_ret (v := .tuple #[.iface 108 (.pointer (some ⟨g, 0, none⟩)), .nilIface]) ?h1 rfl ⟨g, _, .slice A xs.length m, rfl, below_st HBu.out hgl 16 _, hgl, HC.out.setX _, (.inr ⟨gr, ⟨ra, rp⟩, rfl, rfl, HRR.out.far (p := ⟨g, 16, none⟩) (by simp only; omega) _⟩), Kd.R_reads (Kd.R_far (p := ⟨g, 16, none⟩) HRu.out (fun _ hk => by simp only; omega) _)⟩
  case h1 => simp [results, Tryz.results47, go_sem]

end Go.Proofs.YtmfdbcfpcifmcaaGreatDoor

namespace Go.Proofs.YtmfdbcfpcifmcaaGreatDoor
open Go.RowKit Go.Proofs.YtmfdbcfpcifmcaaGreatDoorW.PrintWords Go.Proofs.YtmfdbcfpcifmcaaGreatDoor.PFnFormat

set_option maxRecDepth 100000 in
set_option maxHeartbeats 400000 in
theorem newTCP (t : Int) (h1 : 1 ≤ t) (h3 : t ≤ 3) (w : World) : Calls Tryz.prog 72 #[.string (tcpStr t)] w fun e w' => e = .returned (.int .i64 t) ∧ Below w.heap.size w w' := by
  have hn : t = 1 ∨ t = 2 ∨ t = 3 := by omega
  have hl : Low (tcpStr t) ∧ (tcpStr t).size ≤ maxLen := by
    rcases hn with rfl | rfl | rfl
    all_goals exact ⟨low_of _ (by decide), Nat.le_of_lt (by decide)⟩
  have HL := Lib.hid (toLower_low (tcpStr t) w hl.2 hl.1)
  clear hl
  rcases hn with rfl | rfl | rfl
  all_goals
    go_enter Tryz.func72, Tryz.ntmps72
    go_wp2_with fail
    refine HL.out.mono ?_
    rintro e w' ⟨rfl, rfl⟩
    simp only [tcpStr]
    go_wp2_with fail
    go_ret
    exact ⟨rfl, Below.refl _ _⟩

theorem posn0 (raw : ByteArray) (ws : List (List UInt8)) (h : 0 < ws.length) : posn raw ws 0 = 0 := by
  unfold posn
  rw [if_pos h]
  rfl

/-- A text whose first word has letters of ICE alone does not begin with the attribute's name. -/
theorem WordsIn.noPrefix {raw : ByteArray} {ws : List (List UInt8)} (h : WordsIn raw ws) (h1 : 1 < ws.length) (hc : ∀ c ∈ ws.getD 0 [], isCh c.toNat) : Lib.trimPrefix raw.data.toList candS = raw.data.toList := by
  unfold Lib.trimPrefix
  rw [if_neg]
  intro hp
  obtain ⟨r, hr⟩ : candS <+: raw.data.toList := List.isPrefixOf_iff_prefix.1 hp
  have hb : ∀ j (hj : j < 10), bt raw j = (candS.getD j 0).toNat := fun j hj => by
    unfold bt
    rw [← hr, List.getD_eq_getElem?_getD, List.getD_eq_getElem?_getD, List.getElem?_append_left (by simpa [candS] using hj)]
  have h0 := h.bt_space 0 h1
  have he : 9 < eAt ws 0 := by
    rcases Nat.lt_or_ge 9 (eAt ws 0) with hh | hh
    · exact hh
    · have := hb (eAt ws 0) (by omega)
      rw [h0] at this
      have hc : ∀ j : Fin 10, (candS.getD j.val 0).toNat ≠ 32 := by decide
      exact absurd this.symm (hc ⟨eAt ws 0, by omega⟩)
  obtain ⟨c, hc9, h9⟩ := h.all 0 (by omega) hc 9 (Nat.zero_le _) he
  rw [hb 9 (by omega)] at h9
  have : (candS.getD 9 0).toNat = 58 := by decide
  rw [this] at h9
  unfold isCh at hc9
  omega
theorem withPrefix (l : List UInt8) : Lib.trimPrefix (candS ++ l) candS = l := by
  unfold Lib.trimPrefix
  rw [if_pos (show Lib.hasPrefix (candS ++ l) candS = true from List.isPrefixOf_iff_prefix.2 ⟨l, rfl⟩)]
  simp

theorem netNum_of {net : Int} (h1 : 1 ≤ net) (h4 : net ≤ 4) : netNum (net == 3 || net == 4) (decide (¬ (net = 1 ∨ net = 3))) = net := by
  have hn : net = 1 ∨ net = 2 ∨ net = 3 ∨ net = 4 := by omega
  rcases hn with rfl | rfl | rfl | rfl <;> rfl

/-- What the readers make of the first eight words; q: where they end. -/
structure Heads (raw w0 w2 w4 kn : ByteArray) (q : Nat → Nat) (comp prio port : Nat) : Prop where
  R0 : ∀ W, Calls Tryz.prog 64 #[.string raw, .int .i64 0, .int .i64 32] W fun e w' => e = .returned (.tuple #[.string w0, .int .i64 (q 1 : Int), .nilIface]) ∧ Below W.heap.size W w'
  R1 : ∀ W, Calls Tryz.prog 65 #[.string raw, .int .i64 (q 1 : Int)] W fun e w' => e = .returned (.tuple #[.int .u16 (comp : Int), .int .i64 (q 2 : Int), .nilIface]) ∧ Below W.heap.size W w'
  R2 : ∀ W, Calls Tryz.prog 66 #[.string raw, .int .i64 (q 2 : Int)] W fun e w' => e = .returned (.tuple #[.string w2, .int .i64 (q 3 : Int)]) ∧ Below W.heap.size W w'
  R3 : ∀ W, Calls Tryz.prog 67 #[.string raw, .int .i64 (q 3 : Int)] W fun e w' => e = .returned (.tuple #[.int .u32 (prio : Int), .int .i64 (q 4 : Int), .nilIface]) ∧ Below W.heap.size W w'
  R4 : ∀ W, Calls Tryz.prog 66 #[.string raw, .int .i64 (q 4 : Int)] W fun e w' => e = .returned (.tuple #[.string w4, .int .i64 (q 5 : Int)]) ∧ Below W.heap.size W w'
  R5 : ∀ W, Calls Tryz.prog 69 #[.string raw, .int .i64 (q 5 : Int)] W fun e w' => e = .returned (.tuple #[.int .i64 (port : Int), .int .i64 (q 6 : Int), .nilIface]) ∧ Below W.heap.size W w'
  R6 : ∀ W, Calls Tryz.prog 66 #[.string raw, .int .i64 (q 6 : Int)] W fun e w' => e = .returned (.tuple #[.string ⟨#[116, 121, 112]⟩, .int .i64 (q 7 : Int)]) ∧ Below W.heap.size W w'
  R7 : ∀ W, Calls Tryz.prog 66 #[.string raw, .int .i64 (q 7 : Int)] W fun e w' => e = .returned (.tuple #[.string kn, .int .i64 (q 8 : Int)]) ∧ Below W.heap.size W w'
  RZ : ∀ W, Calls Tryz.prog 68 #[.string w4] W fun e w' => e = .returned (.string w4) ∧ W = w'
  h0 : 0 < w0.size
  lt : ∀ i, i < 8 → q i < raw.size

theorem heads (k : Nat) (tcpB six : Bool) (found : ByteArray) (hw : Word found 32) (comp prio : Nat) (addr : ByteArray) (ha : addrText six addr) (port : Nat) (hc : comp ≤ 65535) (hp : prio ≤ 4294967295) (hpo : port ≤ 65535)
    (t : ByteArray) (tail : List (List UInt8)) (hW : WordsIn t (headWords k tcpB found comp prio addr port ++ tail)) (hs : t.size ≤ 4611686018427387904) :
    Heads t found (trStr tcpB) addr (kindStr k) (posn t (headWords k tcpB found comp prio addr port ++ tail)) comp prio port := by
  have hlen : 8 ≤ (headWords k tcpB found comp prio addr port ++ tail).length := by
    rw [List.length_append]
    show 8 ≤ 8 + _
    omega
  have g0 : (headWords k tcpB found comp prio addr port ++ tail).getD 0 [] = found.data.toList := rfl
  have g1 : (headWords k tcpB found comp prio addr port ++ tail).getD 1 [] = Lib.decDigits comp := rfl
  have g2 : (headWords k tcpB found comp prio addr port ++ tail).getD 2 [] = (trStr tcpB).data.toList := rfl
  have g3 : (headWords k tcpB found comp prio addr port ++ tail).getD 3 [] = Lib.decDigits prio := rfl
  have g4 : (headWords k tcpB found comp prio addr port ++ tail).getD 4 [] = addr.data.toList := rfl
  have g5 : (headWords k tcpB found comp prio addr port ++ tail).getD 5 [] = Lib.decDigits port := rfl
  have g6 : (headWords k tcpB found comp prio addr port ++ tail).getD 6 [] = [116, 121, 112] := rfl
  have g7 : (headWords k tcpB found comp prio addr port ++ tail).getD 7 [] = (kindStr k).data.toList := rfl
  generalize headWords k tcpB found comp prio addr port ++ tail = ws at *
  have e1 : found.data.toList.length = found.size := Array.length_toList
  have hf0 := hw.1
  have hf32 := hw.2.1
  refine ⟨fun W => ?_, hW.comp hs 1 (by omega) comp g1 hc, fun W => ?_, hW.prio hs 3 (by omega) prio g3 hp, fun W => ?_, hW.port hs 5 (by omega) port g5 hpo, fun W => ?_, fun W => ?_, fun W => ?_, hf0, fun i hi => hW.posn_lt i (by omega)⟩
  · have := hW.char hs 0 (by omega) (by rw [g0]; exact word_mem hw) (by rw [g0]; omega) W
    rw [g0, back, posn0 t ws (by omega)] at this
    exact this
  · have := hW.str hs 2 (by omega) W
    rw [g2, back] at this
    exact this
  · have := hW.str hs 4 (by omega) W
    rw [g4, back] at this
    exact this
  · have := hW.str hs 6 (by omega) W
    rw [g6] at this
    exact this
  · have := hW.str hs 7 (by omega) W
    rw [g7, back] at this
    exact this
  · have := hW.noZone hs 4 (by omega) (by rw [g4]; exact fun c hc => (addr_mem ha c hc).2.2) W
    rw [g4, back] at this
    exact this
end Go.Proofs.YtmfdbcfpcifmcaaGreatDoor

namespace Go.Proofs.YtmfdbcfpcifmcaaGreatDoor
open Go.RowKit Go.Proofs.YtmfdbcfpcifmcaaGreatDoorW.PrintWords Go.Proofs.YtmfdbcfpcifmcaaGreatDoor.PFnFormat

def tcpPair (tt : Int) : List S62 := if tt = 0 then [] else [⟨⟨#[116, 99, 112, 116, 121, 112, 101]⟩, tcpStr tt⟩]
def pairsOf (tt : Int) (l9 : List S62) : List S62 := tcpPair tt ++ l9
theorem pairs_words (tt : Int) (l9 : List S62) : tcpWords tt ++ (l9.map ext63).flatMap extWords = (pairsOf tt l9).flatMap kvWords := by
  have h : ∀ l : List S62, (l.map ext63).flatMap extWords = l.flatMap kvWords := by
    intro l
    induction l with
    | nil => rfl
    | cons a l ih => rw [List.map_cons, List.flatMap_cons, List.flatMap_cons, ih]; rfl
  unfold pairsOf
  rw [List.flatMap_append, h]
  congr 1
  unfold tcpWords tcpPair
  split <;> rfl
theorem pairs_out (tt : Int) (l9 : List S62) (hx : ∀ x ∈ l9, isTcp x = false) : outOf (pairsOf tt l9) = l9 := by
  unfold outOf pairsOf
  have h9 : l9.filter (fun x => !isTcp x) = l9 := List.filter_eq_self.2 (fun x h => by rw [hx x h]; rfl)
  rw [List.filter_append, h9]
  unfold tcpPair
  split
  · rfl
  · show [] ++ l9 = l9
    rfl
theorem tcp_none (l9 : List S62) (hx : ∀ x ∈ l9, isTcp x = false) : ∀ t, l9.foldl (fun t x => if isTcp x then x.f1 else t) t = t := by
  induction l9 with
  | nil => intro t; rfl
  | cons a l ih =>
    intro t
    rw [List.foldl_cons, hx a (List.mem_cons_self ..)]
    exact ih (fun x h => hx x (List.mem_cons_of_mem _ h)) t
theorem pairs_tcp (tt : Int) (l9 : List S62) (hx : ∀ x ∈ l9, isTcp x = false) : tcpOf (pairsOf tt l9) = if tt = 0 then ⟨#[]⟩ else tcpStr tt := by
  unfold tcpOf pairsOf
  rw [List.foldl_append, tcp_none l9 hx]
  unfold tcpPair
  split <;> rfl

variable {t : ByteArray} {ws : List (List UInt8)}
theorem WordsIn.extNone (_ : WordsIn t ws) (n : Nat) (hd : ws.drop n = []) : posn t ws n = t.size := by
  refine posn_end t ws n ?_
  have := congrArg List.length hd
  rw [List.length_drop] at this
  simp at this
  omega
theorem WordsIn.extSome (h : WordsIn t ws) (hs : t.size ≤ 4611686018427387904) (n : Nat) (ps : List S62) (hd : ws.drop n = ps.flatMap kvWords) (h0 : 0 < ps.length) (h6 : ps.length ≤ 6) :
    posn t ws n < t.size ∧ ∃ sub : ByteArray, (∀ W : World, (Instr.slice 9 (.string t) (some (.int .i64 (posn t ws n : Int))) none none).run Tryz.prog W = .ok (.string sub) W) ∧
      ∀ W, Calls Tryz.prog 71 #[.string sub] W fun e w' => ∃ v, e = .returned (.tuple #[v, .string (tcpOf ps), .nilIface]) ∧ Kd.R k62 115 w' W.heap.size (fun _ => True) v (outOf ps) ∧ Below W.heap.size W w' := by
  have hl := congrArg List.length hd
  rw [List.length_drop, kv_len] at hl
  have hn : n < ws.length := by omega
  have hr := h.rest n hn
  rw [hd] at hr
  exact ⟨h.posn_lt n hn, _, sliceFrom t _ (h.posn_le n), fun W => readExts _ ps hr (by rw [ext_size]; omega) h0 h6 W⟩

theorem rel_key (x : S62) (h : ¬ keyBad x.f0) : isTcp x = false ∧ x.f0.data.toList ≠ [114, 97, 100, 100, 114] := by
  unfold keyBad at h
  refine ⟨?_, fun e => h (.inl ?_)⟩
  · unfold isTcp
    rw [Bool.eq_false_iff]
    intro e
    exact h (.inr (.inr (ByteArray.ext (Array.toList_inj.1 (beq_iff_eq.1 e)))))
  · exact ByteArray.ext (Array.toList_inj.1 e)

set_option maxRecDepth 100000 in
set_option maxHeartbeats 1000000 in
theorem unmText (k : Nat) (hk1 : 1 ≤ k) (hk4 : k ≤ 4) (tcpB six : Bool) (tt : Int) (ht0 : 0 ≤ tt) (ht3 : tt ≤ 3) (hkt : tt ≠ 0 → k = 1) (found : ByteArray) (hw : Word found 32) (comp prio : Nat) (addr : ByteArray) (ha : addrText six addr) (has : addr.size ≤ maxLen) (port : Nat) (hc : comp ≤ 65535) (hp : prio ≤ 4294967295) (hpo : port ≤ 65535)
    (l8 : List S59) (l9 : List S62) (hk8 : k = 1 ↔ l8.length = 0) (h81 : l8.length ≤ 1) (h95 : l9.length ≤ 5) (hr : ∀ x ∈ l8.map rel60, addrText six x.f0 ∧ 1 ≤ x.f1 ∧ x.f1 ≤ 65535) (hx : ∀ x ∈ l9.map ext63, Word x.f0 20 ∧ Word x.f1 20 ∧ ¬ keyBad x.f0)
    (hs : (textOf k tcpB tt found comp prio addr port (l8.map rel60) (l9.map ext63)).size ≤ 4611686018427387904)
    (raw0 : ByteArray) (hT : ∀ W, Calls Tryz.prog 63 #[.string raw0, .string ⟨#[99, 97, 110, 100, 105, 100, 97, 116, 101, 58]⟩] W fun e w' => e = .returned (.string (textOf k tcpB tt found comp prio addr port (l8.map rel60) (l9.map ext63))) ∧ W = w')
    (w : World) (p4 p6 : Addr) (hG : Glob w p4 p6) :
    Calls Tryz.prog 47 #[.string raw0] w fun e w' => ∃ (g : Nat) (rel : Option Addr) (v : Value), e = .returned (.tuple #[.iface (dynT k) (.pointer (some ⟨g, 0, none⟩)), .nilIface]) ∧ Below w.heap.size w w' ∧ w.heap.size ≤ g ∧
      CandAt w' k g { typ := k, net := netNum tcpB six, comp := comp, port := port, tcp := tt, prio := prio, relay := if k = 4 then 3 else 0, addr := addr, found := found, exts := v } rel ∧ RelIs w' rel l8 ∧ RowX w' v l9 := by
  have hW := textWords k tcpB six tt found hw comp prio addr ha port (l8.map rel60) (l9.map ext63) (fun x h => (hr x h).1) (fun x h => ⟨(hx x h).1, (hx x h).2.1⟩)
  unfold allWords at hW
  rw [pairs_words] at hW
  generalize textOf k tcpB tt found comp prio addr port (l8.map rel60) (l9.map ext63) = t at *
  have hk : ∀ x ∈ l9, isTcp x = false ∧ x.f0.data.toList ≠ [114, 97, 100, 100, 114] := fun x h => rel_key x (hx (ext63 x) (List.mem_map.2 ⟨x, h, rfl⟩)).2.2
  have hout := pairs_out tt l9 (fun x h => (hk x h).1)
  have htcp := pairs_tcp tt l9 (fun x h => (hk x h).1)
  have hpl : (pairsOf tt l9).length ≤ 6 := by
    unfold pairsOf tcpPair
    rw [List.length_append]
    split <;> simp <;> omega
  have hfirst : ∀ p ∈ pairsOf tt l9, p.f0.data.toList ≠ [114, 97, 100, 100, 114] := by
    intro p hp
    unfold pairsOf tcpPair at hp
    rcases List.mem_append.1 hp with hp | hp
    · split at hp
      · simp at hp
      · simp only [List.mem_cons, List.not_mem_nil, or_false] at hp
        subst hp
        show ([116, 99, 112, 116, 121, 112, 101] : List UInt8) ≠ _
        decide
    · exact (hk p hp).2
  have hps0 : pairsOf tt l9 = [] → tt = 0 ∧ l9 = [] := by
    intro h
    unfold pairsOf at h
    obtain ⟨h1, h2⟩ := List.append_eq_nil_iff.1 h
    refine ⟨?_, h2⟩
    unfold tcpPair at h1
    by_cases e : tt = 0
    · exact e
    · rw [if_neg e] at h1
      simp at h1
  generalize hps : pairsOf tt l9 = ps at *
  have hn : netName tcpB (trStr tcpB) := by cases tcpB <;> exact .inl rfl
  have h1or : k = 1 ∨ (k = 2 ∨ k = 3 ∨ k = 4) := by omega
  rcases h1or with rfl | hk234
  · obtain rfl : l8 = [] := List.length_eq_zero_iff.1 (hk8.1 rfl)
    have hH := heads 1 tcpB six found hw comp prio addr ha port hc hp hpo t _ hW hs
    have hd : (headWords 1 tcpB found comp prio addr port ++ (List.flatMap relWords ([].map rel60) ++ ps.flatMap kvWords)).drop 8 = ps.flatMap kvWords := rfl
    have hg : (headWords 1 tcpB found comp prio addr port ++ (List.flatMap relWords ([].map rel60) ++ ps.flatMap kvWords)).getD 8 [] ≠ [114, 97, 100, 100, 114] := by
      show (ps.flatMap kvWords).getD 0 [] ≠ _
      cases ps with
      | nil => decide
      | cons p ps => exact hfirst p (List.mem_cons_self ..)
    generalize headWords 1 tcpB found comp prio addr port ++ (List.flatMap relWords ([].map rel60) ++ ps.flatMap kvWords) = ws at *
    have hRT := hW.relNo hs 8 hg
    by_cases hp0 : ps.length = 0
    · obtain rfl : ps = [] := List.length_eq_zero_iff.1 hp0
      obtain ⟨rfl, rfl⟩ := hps0 rfl
      exact unmOk1A raw0 t found (trStr tcpB) addr tcpB six _ _ _ _ _ _ _ _ _ comp prio port hT hH.R0 hH.R1 hH.R2 hH.R3 hH.R4 hH.R5 hH.R6 hH.R7 hRT hH.RZ hH.h0 (hH.lt 1 (by omega)) (hH.lt 2 (by omega)) (hH.lt 3 (by omega)) (hH.lt 4 (by omega)) (hH.lt 5 (by omega)) (hH.lt 6 (by omega)) (hH.lt 7 (by omega))
        (hW.extNone 8 hd) hn ha has hpo w p4 p6 hG
    · obtain ⟨hlt, sub, hsl, hRE⟩ := hW.extSome hs 8 ps hd (by omega) hpl
      rw [hout, htcp] at hRE
      by_cases htt : tt = 0
      · subst htt
        exact unmOk1B raw0 t found (trStr tcpB) addr tcpB six _ _ _ _ _ _ _ _ _ comp prio port hT hH.R0 hH.R1 hH.R2 hH.R3 hH.R4 hH.R5 hH.R6 hH.R7 hRT hH.RZ hH.h0 (hH.lt 1 (by omega)) (hH.lt 2 (by omega)) (hH.lt 3 (by omega)) (hH.lt 4 (by omega)) (hH.lt 5 (by omega)) (hH.lt 6 (by omega)) (hH.lt 7 (by omega))
          hlt sub hsl l9 hRE hn ha has hpo w p4 p6 hG
      · rw [if_neg htt] at hRE
        exact unmOk1C raw0 t found (trStr tcpB) addr tcpB six _ _ _ _ _ _ _ _ _ comp prio port hT hH.R0 hH.R1 hH.R2 hH.R3 hH.R4 hH.R5 hH.R6 hH.R7 hRT hH.RZ hH.h0 (hH.lt 1 (by omega)) (hH.lt 2 (by omega)) (hH.lt 3 (by omega)) (hH.lt 4 (by omega)) (hH.lt 5 (by omega)) (hH.lt 6 (by omega)) (hH.lt 7 (by omega))
          hlt sub hsl l9 (tcpStr tt) tt (by omega) (tcp_ok tt).1 (newTCP tt (by omega) ht3) hRE hn ha has hpo w p4 p6 hG
  · have htt : tt = 0 := by
      by_cases e : tt = 0
      · exact e
      · have := hkt e
        omega
    subst htt
    have h8l : l8.length = 1 := by
      have : ¬ l8.length = 0 := fun e => by have := hk8.2 e; omega
      omega
    obtain ⟨r, rfl⟩ := List.length_eq_one_iff.1 h8l
    obtain ⟨ra, rpz⟩ := r
    obtain ⟨hra, hrp1, hrp2⟩ := hr (rel60 ⟨ra, rpz⟩) (by simp)
    obtain ⟨rp, rfl⟩ : ∃ n : Nat, rpz = n := ⟨rpz.toNat, by simp only [rel60] at hrp1; omega⟩
    have hH := heads k tcpB six found hw comp prio addr ha port hc hp hpo t _ hW hs
    have hd : (headWords k tcpB found comp prio addr port ++ (List.flatMap relWords ([⟨ra, rp⟩].map rel60) ++ ps.flatMap kvWords)).drop 12 = ps.flatMap kvWords := rfl
    have hl : 8 + 3 < (headWords k tcpB found comp prio addr port ++ (List.flatMap relWords ([⟨ra, rp⟩].map rel60) ++ ps.flatMap kvWords)).length := by
      rw [List.length_append, List.length_append]
      show 8 + 3 < 8 + (4 + _)
      omega
    have g8 : (headWords k tcpB found comp prio addr port ++ (List.flatMap relWords ([⟨ra, rp⟩].map rel60) ++ ps.flatMap kvWords)).getD 8 [] = [114, 97, 100, 100, 114] := rfl
    have g9 : (headWords k tcpB found comp prio addr port ++ (List.flatMap relWords ([⟨ra, rp⟩].map rel60) ++ ps.flatMap kvWords)).getD (8 + 1) [] = ra.data.toList := rfl
    have g10 : (headWords k tcpB found comp prio addr port ++ (List.flatMap relWords ([⟨ra, rp⟩].map rel60) ++ ps.flatMap kvWords)).getD (8 + 2) [] = [114, 112, 111, 114, 116] := rfl
    have g11 : (headWords k tcpB found comp prio addr port ++ (List.flatMap relWords ([⟨ra, rp⟩].map rel60) ++ ps.flatMap kvWords)).getD (8 + 3) [] = Lib.decDigits rp := rfl
    generalize headWords k tcpB found comp prio addr port ++ (List.flatMap relWords ([⟨ra, rp⟩].map rel60) ++ ps.flatMap kvWords) = ws at *
    have hRT := hW.relYes hs 8 hl rp g8 g10 g11 (by simp only [rel60] at hrp2; omega)
    rw [g9, back] at hRT
    by_cases hp0 : ps.length = 0
    · obtain rfl : ps = [] := List.length_eq_zero_iff.1 hp0
      obtain ⟨-, rfl⟩ := hps0 rfl
      have hend := hW.extNone 12 hd
      rcases hk234 with rfl | rfl | rfl
      · exact unmOk2A raw0 t found (trStr tcpB) addr ra tcpB six _ _ _ _ _ _ _ _ _ comp prio port rp hT hH.R0 hH.R1 hH.R2 hH.R3 hH.R4 hH.R5 hH.R6 hH.R7 hRT hH.RZ hH.h0 (hH.lt 1 (by omega)) (hH.lt 2 (by omega)) (hH.lt 3 (by omega)) (hH.lt 4 (by omega)) (hH.lt 5 (by omega)) (hH.lt 6 (by omega)) (hH.lt 7 (by omega))
          hend hn ha has hpo w p4 p6 hG
      · exact unmOk3A raw0 t found (trStr tcpB) addr ra tcpB six _ _ _ _ _ _ _ _ _ comp prio port rp hT hH.R0 hH.R1 hH.R2 hH.R3 hH.R4 hH.R5 hH.R6 hH.R7 hRT hH.RZ hH.h0 (hH.lt 1 (by omega)) (hH.lt 2 (by omega)) (hH.lt 3 (by omega)) (hH.lt 4 (by omega)) (hH.lt 5 (by omega)) (hH.lt 6 (by omega)) (hH.lt 7 (by omega))
          hend hn ha has hpo w p4 p6 hG
      · exact unmOk4A raw0 t found (trStr tcpB) addr ra tcpB six _ _ _ _ _ _ _ _ _ comp prio port rp hT hH.R0 hH.R1 hH.R2 hH.R3 hH.R4 hH.R5 hH.R6 hH.R7 hRT hH.RZ hH.h0 (hH.lt 1 (by omega)) (hH.lt 2 (by omega)) (hH.lt 3 (by omega)) (hH.lt 4 (by omega)) (hH.lt 5 (by omega)) (hH.lt 6 (by omega)) (hH.lt 7 (by omega))
          hend hn ha has hpo w p4 p6 hG
    · obtain ⟨hlt, sub, hsl, hRE⟩ := hW.extSome hs 12 ps hd (by omega) hpl
      rw [hout, htcp] at hRE
      rcases hk234 with rfl | rfl | rfl
      · exact unmOk2B raw0 t found (trStr tcpB) addr ra tcpB six _ _ _ _ _ _ _ _ _ comp prio port rp hT hH.R0 hH.R1 hH.R2 hH.R3 hH.R4 hH.R5 hH.R6 hH.R7 hRT hH.RZ hH.h0 (hH.lt 1 (by omega)) (hH.lt 2 (by omega)) (hH.lt 3 (by omega)) (hH.lt 4 (by omega)) (hH.lt 5 (by omega)) (hH.lt 6 (by omega)) (hH.lt 7 (by omega))
          hlt sub hsl l9 hRE hn ha has hpo w p4 p6 hG
      · exact unmOk3B raw0 t found (trStr tcpB) addr ra tcpB six _ _ _ _ _ _ _ _ _ comp prio port rp hT hH.R0 hH.R1 hH.R2 hH.R3 hH.R4 hH.R5 hH.R6 hH.R7 hRT hH.RZ hH.h0 (hH.lt 1 (by omega)) (hH.lt 2 (by omega)) (hH.lt 3 (by omega)) (hH.lt 4 (by omega)) (hH.lt 5 (by omega)) (hH.lt 6 (by omega)) (hH.lt 7 (by omega))
          hlt sub hsl l9 hRE hn ha has hpo w p4 p6 hG
      · exact unmOk4B raw0 t found (trStr tcpB) addr ra tcpB six _ _ _ _ _ _ _ _ _ comp prio port rp hT hH.R0 hH.R1 hH.R2 hH.R3 hH.R4 hH.R5 hH.R6 hH.R7 hRT hH.RZ hH.h0 (hH.lt 1 (by omega)) (hH.lt 2 (by omega)) (hH.lt 3 (by omega)) (hH.lt 4 (by omega)) (hH.lt 5 (by omega)) (hH.lt 6 (by omega)) (hH.lt 7 (by omega))
          hlt sub hsl l9 hRE hn ha has hpo w p4 p6 hG
end Go.Proofs.YtmfdbcfpcifmcaaGreatDoor
