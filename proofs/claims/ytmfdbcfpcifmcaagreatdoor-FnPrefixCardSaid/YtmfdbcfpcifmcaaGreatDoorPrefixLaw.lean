/- laws.FnPrefix: true, whatever the candidate. (The opening is written by mklaw.py.) -/
import Derived.Test.YtmfdbcfpcifmcaaGreatDoorMe
import Derived.Test.YtmfdbcfpcifmcaaGreatDoorRc
namespace Go.Proofs.YtmfdbcfpcifmcaaGreatDoor
open Go.RowKit Go.Proofs.YtmfdbcfpcifmcaaGreatDoorW.PrintWords Go.Proofs.YtmfdbcfpcifmcaaGreatDoor.PFnFormat

theorem rels_sizes {l8 : List S59} (h : ∀ x ∈ l8, x.f0.size ≤ 2147483647) : ∀ x ∈ l8.map rel60, x.f0.size ≤ 2147483647 := by
  intro x hx
  obtain ⟨y, hy, rfl⟩ := List.mem_map.1 hx
  exact h y hy
theorem exts_sizes {l9 : List S62} (h : ∀ x ∈ l9, x.f0.size ≤ 2147483647 ∧ x.f1.size ≤ 2147483647) : ∀ x ∈ l9.map ext63, x.f0.size ≤ 2147483647 ∧ x.f1.size ≤ 2147483647 := by
  intro x hx
  obtain ⟨y, hy, rfl⟩ := List.mem_map.1 hx
  exact h y hy

set_option maxRecDepth 100000 in
set_option maxHeartbeats 4000000 in
theorem fnPrefix (kind net tcp : Int) (found : ByteArray) (comp prio : Int) (addr : ByteArray) (port : Int) (A8 A9 : Option Addr) (m8 m9 : Nat) (l8 : List S59) (l9 : List S62) (hc8 : l8.length ≤ m8) (hc9 : l9.length ≤ m9)
    (w : World) (h8 : Kd.C k59 w A8 l8.length l8) (h9 : Kd.C k62 w A9 l9.length l9) (p4 p6 : Addr) (hG : Glob w p4 p6) (hpr0 : 0 ≤ prio) (hpr1 : prio < 4294967296) :
    Calls Tryz.prog 9 #[.agg #[.int .i64 kind, .int .i64 net, .int .i64 tcp, .string found, .int .i64 comp, .int .u32 prio, .string addr, .int .i64 port, .slice A8 l8.length m8, .slice A9 l9.length m9]] w fun e w' =>
      e = .returned (.bool true) ∧ Below w.heap.size w w' := by
  have H8 := Lib.hid h8
  have H9 := Lib.hid h9
  have hb := below_al (Below.refl w.heap.size w) (Nat.le_refl _) (.cells #[.int .i64 kind, .int .i64 net, .int .i64 tcp, .string found, .int .i64 comp, .int .u32 prio, .string addr, .int .i64 port, .slice A8 l8.length m8, .slice A9 l9.length m9] 26)
  have hx := Row.new w 26 #[.int .i64 kind, .int .i64 net, .int .i64 tcp, .string found, .int .i64 comp, .int .u32 prio, .string addr, .int .i64 port, .slice A8 l8.length m8, .slice A9 l9.length m9]
  obtain ⟨kf, rf, hf, hfr⟩ := fits_some kind net tcp found comp prio addr port l8 l9
  have C8 := Kd.C_alloc h8 (.cells #[.int .i64 kind, .int .i64 net, .int .i64 tcp, .string found, .int .i64 comp, .int .u32 prio, .string addr, .int .i64 port, .slice A8 l8.length m8, .slice A9 l9.length m9] 26)
  have C9 := Kd.C_alloc h9 (.cells #[.int .i64 kind, .int .i64 net, .int .i64 tcp, .string found, .int .i64 comp, .int .u32 prio, .string addr, .int .i64 port, .slice A8 l8.length m8, .slice A9 l9.length m9] 26)
  go_enter Tryz.func9, Tryz.ntmps9
  go_wp2_with fail
  generalize w.alloc (.cells #[.int .i64 kind, .int .i64 net, .int .i64 tcp, .string found, .int .i64 comp, .int .u32 prio, .string addr, .int .i64 port, .slice A8 l8.length m8, .slice A9 l9.length m9] 26) = W at *
  refine (laws_zzFits1.calls kf kind net tcp found comp prio addr port A8 m8 l8 A9 m9 l9 rf W C8 hc8 C9 hc9 hf).mono ?_
  rintro e W1 ⟨rfl, hb1⟩
  have hgl := hx.lt
  have hB1 := hb.trans (hb1.mono (Nat.le_of_lt hgl))
  have hx1 := hx.below hb1 hgl
  have D8 := Kd.C_below C8 hb1
  have D9 := Kd.C_below C9 hb1
  have hgl1 := hx1.lt
  clear C8 C9 h8 h9 hx hb hb1 hf
  rcases Bool.eq_false_or_eq_true rf with rfl | rfl
  case inr =>
    go_wp2_with fail
    go_ret
    exact ⟨rfl, hB1⟩
  obtain ⟨n8, n9, sf, sa, s8, s9⟩ := hfr rfl
  have S8 := Lib.hid s8
  have S9 := Lib.hid s9
  clear hfr s8 s9
  have c0 : W1.cell? ⟨w.heap.size, 0, none⟩ = some (.int .i64 kind) := hx1.cell 0
  have c1 : W1.cell? ⟨w.heap.size, 1, none⟩ = some (.int .i64 net) := hx1.cell 1
  have c2 : W1.cell? ⟨w.heap.size, 2, none⟩ = some (.int .i64 tcp) := hx1.cell 2
  have c3 : W1.cell? ⟨w.heap.size, 3, none⟩ = some (.string found) := hx1.cell 3
  have c4 : W1.cell? ⟨w.heap.size, 4, none⟩ = some (.int .i64 comp) := hx1.cell 4
  have c5 : W1.cell? ⟨w.heap.size, 5, none⟩ = some (.int .u32 prio) := hx1.cell 5
  have c6 : W1.cell? ⟨w.heap.size, 6, none⟩ = some (.string addr) := hx1.cell 6
  have c7 : W1.cell? ⟨w.heap.size, 7, none⟩ = some (.int .i64 port) := hx1.cell 7
  have c8 : W1.cell? ⟨w.heap.size, 8, none⟩ = some (.slice A8 l8.length m8) := hx1.cell 8
  have c9 : W1.cell? ⟨w.heap.size, 9, none⟩ = some (.slice A9 l9.length m9) := hx1.cell 9
  go_wp2_with fail
  refine (laws_candidate.calls _ kind net tcp found comp prio addr port A8 m8 l8 A9 m9 l9 kind net tcp found comp prio addr port (l8.map rel60) (l9.map ext63) W1 D8 hc8 D9 hc9 (cand_some kind net tcp found comp prio addr port l8 l9 n8 n9)).mono ?_
  rintro e W2 ⟨v8, v9, rfl, R8, R9, hb2⟩
  obtain ⟨B8, k8, rfl, hk8, E8⟩ := Kd.R_reads R8
  obtain ⟨B9, k9, rfl, hk9, E9⟩ := Kd.R_reads R9
  have hB2 := hB1.trans (hb2.mono (Nat.le_of_lt hgl1))
  have hx2 := hx1.below hb2 hgl1
  have hgl2 := hx2.lt
  clear c0 c1 c2 c3 c4 c5 c6 c7 c8 c9 D8 D9 R8 R9 hx1 hB1 hb2
  go_wp2_with fail
  have G8 := Kd.C_alloc E8 (.cells #[.int .i64 kind, .int .i64 net, .int .i64 tcp, .string found, .int .i64 comp, .int .u32 prio, .string addr, .int .i64 port, .slice B8 l8.length k8, .slice B9 l9.length k9] 31)
  have G9 := Kd.C_alloc E9 (.cells #[.int .i64 kind, .int .i64 net, .int .i64 tcp, .string found, .int .i64 comp, .int .u32 prio, .string addr, .int .i64 port, .slice B8 l8.length k8, .slice B9 l9.length k9] 31)
  have hpr := proper kind net tcp found sf comp prio addr sa port B8 B9 k8 k9 (l8.map rel60) (l9.map ext63) (W2.alloc (.cells #[.int .i64 kind, .int .i64 net, .int .i64 tcp, .string found, .int .i64 comp, .int .u32 prio, .string addr, .int .i64 port, .slice B8 l8.length k8, .slice B9 l9.length k9] 31)) (by simpa using n8) (by simpa using n9) (by simpa using hk9) (rels_sizes S8.out) (exts_sizes S9.out) G8 G9
  simp only [List.length_map] at hpr
  refine hpr.mono ?_
  rintro e W3 ⟨⟨b, rfl, hbP⟩, hb3⟩
  have ho3 : Row W3 W2.heap.size 31 #[.int .i64 kind, .int .i64 net, .int .i64 tcp, .string found, .int .i64 comp, .int .u32 prio, .string addr, .int .i64 port, .slice B8 l8.length k8, .slice B9 l9.length k9] := (Row.new W2 31 #[.int .i64 kind, .int .i64 net, .int .i64 tcp, .string found, .int .i64 comp, .int .u32 prio, .string addr, .int .i64 port, .slice B8 l8.length k8, .slice B9 l9.length k9]).below hb3 (by simp)
  have hx3 := (hx2.alloc (.cells #[.int .i64 kind, .int .i64 net, .int .i64 tcp, .string found, .int .i64 comp, .int .u32 prio, .string addr, .int .i64 port, .slice B8 l8.length k8, .slice B9 l9.length k9] 31)).below hb3 (by simp; omega)
  have hB3 : Below w.heap.size w W3 := (hB2.alloc hB2.size _).trans (hb3.mono (by simp; have := hB2.size; omega))
  have O8 := Lib.hid (Kd.C_below G8 hb3)
  have O9 := Lib.hid (Kd.C_below G9 hb3)
  have hgl3 := hx3.lt
  have hgo3 := ho3.lt
  clear hpr E8 E9 G8 G9 hx2 hB2 hb3
  rcases Bool.eq_false_or_eq_true b with rfl | rfl
  case inr =>
    go_wp2_with fail
    refine (works W3).mono ?_
    rintro e w' ⟨rfl, rfl⟩
    go_wp2_with fail
    go_ret
    exact ⟨rfl, hB3⟩
  have HP := Lib.hid (hbP rfl)
  have HX := Lib.hid hx3
  have HO := Lib.hid ho3
  have HB := Lib.hid hB3
  clear hbP
  clear hx3 ho3 hB3 HX
  have hP := HP.out
  obtain ⟨k, rfl⟩ : ∃ k : Nat, kind = k := ⟨kind.toNat, by have := hP.kind1; omega⟩
  obtain ⟨comp, rfl⟩ : ∃ n : Nat, comp = n := ⟨comp.toNat, by have := hP.comp1; omega⟩
  obtain ⟨port, rfl⟩ : ∃ n : Nat, port = n := ⟨port.toNat, by have := hP.port0; omega⟩
  obtain ⟨prio, rfl⟩ : ∃ n : Nat, prio = n := ⟨prio.toNat, by omega⟩
  have hk1 : 1 ≤ k := by have := hP.kind1; omega
  have hk4 : k ≤ 4 := by have := hP.kind4; omega
  have hc2 : comp ≤ 65535 := by have := hP.comp256; omega
  have hp1 : port ≤ 65535 := by have := hP.port1; omega
  have hr1 : (l8.map rel60).length ≤ 1 := hP.rels1
  have hx5 : (l9.map ext63).length ≤ 5 := hP.exts5
  have hx5' : l9.length ≤ 5 := by simpa using hx5
  have hrs : ∀ x ∈ l8.map rel60, x.f0.size ≤ 4294967296 ∧ 0 ≤ x.f1 ∧ x.f1 ≤ 65535 := fun x hx => by
    have h1 := rels_sizes S8.out x hx
    obtain ⟨-, h2, h3⟩ := hP.rel_ x hx
    omega
  have hxs : ∀ x ∈ l9.map ext63, x.f0.size ≤ 4294967296 ∧ x.f1.size ≤ 4294967296 := fun x hx => by
    have h1 := exts_sizes S9.out x hx
    omega
  obtain ⟨tcpB, hTB⟩ : ∃ b, (net == 3 || net == 4) = b := ⟨_, rfl⟩
  have hTx := specText k hk1 hk4 net tcp tcpB hTB hP.tcp0 hP.tcp3 found addr (by omega) (by omega) comp prio port hc2 (by omega) hp1 B8 B9 k8 k9 (l8.map rel60) (l9.map ext63) hr1 hx5 hrs hxs W3 O8.out O9.out
  have htb := text_bound k tcpB tcp found addr comp prio port (l8.map rel60) (l9.map ext63) (by omega) (by omega) hc2 (by omega) hp1 hr1 hx5 hrs hxs
  have hRd := readsText hP hTB (by omega) (by unfold maxLen; omega) htb
  simp only [List.length_map] at hTx
  generalize textOf k tcpB tcp found comp prio addr port (l8.map rel60) (l9.map ext63) = t at *
  have HTX := Lib.hid hTx
  have HPK := Lib.hid (parseOk k hk1 hk4 net tcp hP.tcp0 hP.tcp3 found hP.found_.1 comp prio hc2 (by have := hP.prio0; omega) addr port l8 l9 hx5' (proper_no hP) _ (Lib.hid hRd.2))
  have o0 : W3.cell? ⟨W2.heap.size, 0, none⟩ = some (.int .i64 (k : Int)) := HO.out.cell 0
  have o1 : W3.cell? ⟨W2.heap.size, 1, none⟩ = some (.int .i64 net) := HO.out.cell 1
  have o2 : W3.cell? ⟨W2.heap.size, 2, none⟩ = some (.int .i64 tcp) := HO.out.cell 2
  have o3 : W3.cell? ⟨W2.heap.size, 3, none⟩ = some (.string found) := HO.out.cell 3
  have o4 : W3.cell? ⟨W2.heap.size, 4, none⟩ = some (.int .i64 (comp : Int)) := HO.out.cell 4
  have o5 : W3.cell? ⟨W2.heap.size, 5, none⟩ = some (.int .u32 (prio : Int)) := HO.out.cell 5
  have o6 : W3.cell? ⟨W2.heap.size, 6, none⟩ = some (.string addr) := HO.out.cell 6
  have o7 : W3.cell? ⟨W2.heap.size, 7, none⟩ = some (.int .i64 (port : Int)) := HO.out.cell 7
  have o8 : W3.cell? ⟨W2.heap.size, 8, none⟩ = some (.slice B8 l8.length k8) := HO.out.cell 8
  have o9 : W3.cell? ⟨W2.heap.size, 9, none⟩ = some (.slice B9 l9.length k9) := HO.out.cell 9
  have hr1' := Lib.hid hr1
  have hx5h := Lib.hid hx5
  clear hP HP hTx hrs hxs hr1 hx5 S8 S9 H8 H9 hTB hpr0 hpr1 hRd
  have HTB := Lib.hid htb
  clear htb
  go_wp2_with fail
  refine HTX.out.mono ?_
  rintro e W4 ⟨rfl, hb4⟩
  have HB4 := Lib.hid (HB.out.trans (hb4.mono (Nat.le_of_lt hgl3)))
  have HG4 := Lib.hid (hG.below HB4.out)
  have HO4 := Lib.hid (HO.out.below hb4 hgo3)
  have O84 := Lib.hid (Kd.C_below O8.out hb4)
  have O94 := Lib.hid (Kd.C_below O9.out hb4)
  have hgo4 := HO4.out.lt
  clear o0 o1 o2 o3 o4 o5 o6 o7 o8 o9 hb4 HTX HB HO O8 O9 hgo3
  have hts := HTB.out
  have hcs : (⟨#[99, 97, 110, 100, 105, 100, 97, 116, 101, 58]⟩ : ByteArray).size + t.size ≤ 9223372036854775807 := by
    have : (⟨#[99, 97, 110, 100, 105, 100, 97, 116, 101, 58]⟩ : ByteArray).size = 10 := by decide
    omega
  go_wp2_with fail
  change Calls _ _ #[.string (candText ++ t)] _ _
  refine (HPK.out W4 p4 p6 HG4.out).mono ?_
  rintro e W5 ⟨rp, xp, rc, xc, rfl, hL, hb5⟩
  have HBA := Lib.hid (below_al (HB4.out.trans (hb5.mono HB4.out.size)) (Nat.le_refl _) (.cells #[.int .i64 (k : Int), .int .i64 net, .int .i64 tcp, .string found, .int .i64 (comp : Int), .int .u32 (prio : Int), .string addr, .int .i64 (port : Int), .slice rp l8.length rc, .slice xp l9.length xc] 26))
  have HOA := Lib.hid ((HO4.out.below hb5 hgo4).alloc (.cells #[.int .i64 (k : Int), .int .i64 net, .int .i64 tcp, .string found, .int .i64 (comp : Int), .int .u32 (prio : Int), .string addr, .int .i64 (port : Int), .slice rp l8.length rc, .slice xp l9.length xc] 26))
  have O8A := Lib.hid (Kd.C_alloc (Kd.C_below O84.out hb5) (.cells #[.int .i64 (k : Int), .int .i64 net, .int .i64 tcp, .string found, .int .i64 (comp : Int), .int .u32 (prio : Int), .string addr, .int .i64 (port : Int), .slice rp l8.length rc, .slice xp l9.length xc] 26))
  have O9A := Lib.hid (Kd.C_alloc (Kd.C_below O94.out hb5) (.cells #[.int .i64 (k : Int), .int .i64 net, .int .i64 tcp, .string found, .int .i64 (comp : Int), .int .u32 (prio : Int), .string addr, .int .i64 (port : Int), .slice rp l8.length rc, .slice xp l9.length xc] 26))
  have L8A := Lib.hid (Kd.C_alloc hL.r8 (.cells #[.int .i64 (k : Int), .int .i64 net, .int .i64 tcp, .string found, .int .i64 (comp : Int), .int .u32 (prio : Int), .string addr, .int .i64 (port : Int), .slice rp l8.length rc, .slice xp l9.length xc] 26))
  have L9A := Lib.hid (Kd.C_alloc hL.r9 (.cells #[.int .i64 (k : Int), .int .i64 net, .int .i64 tcp, .string found, .int .i64 (comp : Int), .int .u32 (prio : Int), .string addr, .int .i64 (port : Int), .slice rp l8.length rc, .slice xp l9.length xc] 26))
  have HLc8 := Lib.hid hL.c8
  have HLc9 := Lib.hid hL.c9
  clear hb5 hL HB4 HO4 O84 O94 HPK HG4
  go_wp2_with fail
  generalize W5.alloc (.cells #[.int .i64 (k : Int), .int .i64 net, .int .i64 tcp, .string found, .int .i64 (comp : Int), .int .u32 (prio : Int), .string addr, .int .i64 (port : Int), .slice rp l8.length rc, .slice xp l9.length xc] 26) = V at *
  refine (laws_candidate.calls _ (k : Int) net tcp found (comp : Int) (prio : Int) addr (port : Int) rp rc l8 xp xc l9 (k : Int) net tcp found (comp : Int) (prio : Int) addr (port : Int) (l8.map rel60) (l9.map ext63) V L8A.out HLc8.out L9A.out HLc9.out (cand_some (k : Int) net tcp found (comp : Int) (prio : Int) addr (port : Int) l8 l9 n8 n9)).mono ?_
  rintro e W6 ⟨v8, v9, rfl, R8, R9, hb6⟩
  obtain ⟨D8, q8, rfl, hq8, E8⟩ := Kd.R_reads R8
  obtain ⟨D9, q9, rfl, hq9, E9⟩ := Kd.R_reads R9
  have hwV := HBA.out.size
  have hoV := HOA.out.lt
  have HB6 := Lib.hid (HBA.out.trans (hb6.mono hwV))
  have hx6 := HOA.out.below hb6 hoV
  have F8 := Lib.hid (Kd.C_alloc (Kd.C_below O8A.out hb6) (.cells #[.int .i64 (k : Int), .int .i64 net, .int .i64 tcp, .string found, .int .i64 (comp : Int), .int .u32 (prio : Int), .string addr, .int .i64 (port : Int), .slice D8 l8.length q8, .slice D9 l9.length q9] 31))
  have F9 := Lib.hid (Kd.C_alloc (Kd.C_below O9A.out hb6) (.cells #[.int .i64 (k : Int), .int .i64 net, .int .i64 tcp, .string found, .int .i64 (comp : Int), .int .u32 (prio : Int), .string addr, .int .i64 (port : Int), .slice D8 l8.length q8, .slice D9 l9.length q9] 31))
  simp only [List.length_map] at E8 E9
  have Y8 := Lib.hid (Kd.C_alloc E8 (.cells #[.int .i64 (k : Int), .int .i64 net, .int .i64 tcp, .string found, .int .i64 (comp : Int), .int .u32 (prio : Int), .string addr, .int .i64 (port : Int), .slice D8 l8.length q8, .slice D9 l9.length q9] 31))
  have Y9 := Lib.hid (Kd.C_alloc E9 (.cells #[.int .i64 (k : Int), .int .i64 net, .int .i64 tcp, .string found, .int .i64 (comp : Int), .int .u32 (prio : Int), .string addr, .int .i64 (port : Int), .slice D8 l8.length q8, .slice D9 l9.length q9] 31))
  have HX6 := Lib.hid (hx6.alloc (.cells #[.int .i64 (k : Int), .int .i64 net, .int .i64 tcp, .string found, .int .i64 (comp : Int), .int .u32 (prio : Int), .string addr, .int .i64 (port : Int), .slice D8 l8.length q8, .slice D9 l9.length q9] 31))
  have HY6 := Lib.hid (Row.new W6 31 #[.int .i64 (k : Int), .int .i64 net, .int .i64 tcp, .string found, .int .i64 (comp : Int), .int .u32 (prio : Int), .string addr, .int .i64 (port : Int), .slice D8 l8.length q8, .slice D9 l9.length q9])
  have HB6A := Lib.hid (below_al HB6.out (Nat.le_refl _) (.cells #[.int .i64 (k : Int), .int .i64 net, .int .i64 tcp, .string found, .int .i64 (comp : Int), .int .u32 (prio : Int), .string addr, .int .i64 (port : Int), .slice D8 l8.length q8, .slice D9 l9.length q9] 31))
  have o0 : W6.cell? ⟨W2.heap.size, 0, none⟩ = some (.int .i64 (k : Int)) := hx6.cell 0
  have o1 : W6.cell? ⟨W2.heap.size, 1, none⟩ = some (.int .i64 net) := hx6.cell 1
  have o2 : W6.cell? ⟨W2.heap.size, 2, none⟩ = some (.int .i64 tcp) := hx6.cell 2
  have o3 : W6.cell? ⟨W2.heap.size, 3, none⟩ = some (.string found) := hx6.cell 3
  have o4 : W6.cell? ⟨W2.heap.size, 4, none⟩ = some (.int .i64 (comp : Int)) := hx6.cell 4
  have o5 : W6.cell? ⟨W2.heap.size, 5, none⟩ = some (.int .u32 (prio : Int)) := hx6.cell 5
  have o6 : W6.cell? ⟨W2.heap.size, 6, none⟩ = some (.string addr) := hx6.cell 6
  have o7 : W6.cell? ⟨W2.heap.size, 7, none⟩ = some (.int .i64 (port : Int)) := hx6.cell 7
  have o8 : W6.cell? ⟨W2.heap.size, 8, none⟩ = some (.slice B8 l8.length k8) := hx6.cell 8
  have o9 : W6.cell? ⟨W2.heap.size, 9, none⟩ = some (.slice B9 l9.length k9) := hx6.cell 9
  have hgo6 := hx6.lt
  clear R8 R9 E8 E9 hb6 hx6 HBA HOA O8A O9A L8A L9A HLc8 HLc9 HB6 hq8 hq9
  go_wp2_with fail
  refine (lawsSame (k : Int) net tcp found (comp : Int) (prio : Int) addr (port : Int) D8 D9 B8 B9 l8.length l9.length q8 q9 k8 k9 _).mono ?_
  rintro e W8 ⟨rfl, hb8⟩
  have hx8 := HX6.out.below hb8 HX6.out.lt
  have hy8 := HY6.out.below hb8 HY6.out.lt
  have HB8 := Lib.hid (HB6A.out.trans (hb8.mono HB6A.out.size))
  have hS := specSame (k : Int) net tcp found (comp : Int) (prio : Int) addr (port : Int) D8 D9 B8 B9 q8 q9 k8 k9 (l8.map rel60) (l9.map ext63) W8 hr1'.out hx5h.out (by simpa using Kd.C_below Y8.out hb8) (by simpa using Kd.C_below Y9.out hb8) (by simpa using Kd.C_below F8.out hb8) (by simpa using Kd.C_below F9.out hb8)
  simp only [List.length_map] at hS
  have HS := Lib.hid hS
  clear o0 o1 o2 o3 o4 o5 o6 o7 o8 o9 hS hb8 HX6 HY6 HB6A Y8 Y9 F8 F9 hr1' hx5h
  have o0 : W8.cell? ⟨W2.heap.size, 0, none⟩ = some (.int .i64 (k : Int)) := hx8.cell 0
  have o1 : W8.cell? ⟨W2.heap.size, 1, none⟩ = some (.int .i64 net) := hx8.cell 1
  have o2 : W8.cell? ⟨W2.heap.size, 2, none⟩ = some (.int .i64 tcp) := hx8.cell 2
  have o3 : W8.cell? ⟨W2.heap.size, 3, none⟩ = some (.string found) := hx8.cell 3
  have o4 : W8.cell? ⟨W2.heap.size, 4, none⟩ = some (.int .i64 (comp : Int)) := hx8.cell 4
  have o5 : W8.cell? ⟨W2.heap.size, 5, none⟩ = some (.int .u32 (prio : Int)) := hx8.cell 5
  have o6 : W8.cell? ⟨W2.heap.size, 6, none⟩ = some (.string addr) := hx8.cell 6
  have o7 : W8.cell? ⟨W2.heap.size, 7, none⟩ = some (.int .i64 (port : Int)) := hx8.cell 7
  have o8 : W8.cell? ⟨W2.heap.size, 8, none⟩ = some (.slice B8 l8.length k8) := hx8.cell 8
  have o9 : W8.cell? ⟨W2.heap.size, 9, none⟩ = some (.slice B9 l9.length k9) := hx8.cell 9
  have y0 : W8.cell? ⟨W6.heap.size, 0, none⟩ = some (.int .i64 (k : Int)) := hy8.cell 0
  have y1 : W8.cell? ⟨W6.heap.size, 1, none⟩ = some (.int .i64 net) := hy8.cell 1
  have y2 : W8.cell? ⟨W6.heap.size, 2, none⟩ = some (.int .i64 tcp) := hy8.cell 2
  have y3 : W8.cell? ⟨W6.heap.size, 3, none⟩ = some (.string found) := hy8.cell 3
  have y4 : W8.cell? ⟨W6.heap.size, 4, none⟩ = some (.int .i64 (comp : Int)) := hy8.cell 4
  have y5 : W8.cell? ⟨W6.heap.size, 5, none⟩ = some (.int .u32 (prio : Int)) := hy8.cell 5
  have y6 : W8.cell? ⟨W6.heap.size, 6, none⟩ = some (.string addr) := hy8.cell 6
  have y7 : W8.cell? ⟨W6.heap.size, 7, none⟩ = some (.int .i64 (port : Int)) := hy8.cell 7
  have y8 : W8.cell? ⟨W6.heap.size, 8, none⟩ = some (.slice D8 l8.length q8) := hy8.cell 8
  have y9 : W8.cell? ⟨W6.heap.size, 9, none⟩ = some (.slice D9 l9.length q9) := hy8.cell 9
  clear hx8 hy8
  go_wp2_with fail
  refine HS.out.mono ?_
  rintro e W9 ⟨rfl, hb9⟩
  have HB9 := Lib.hid (HB8.out.trans (hb9.mono HB8.out.size))
  clear o0 o1 o2 o3 o4 o5 o6 o7 o8 o9 y0 y1 y2 y3 y4 y5 y6 y7 y8 y9 hb9 HB8 HS
  go_wp2_with fail
  refine (works _).mono ?_
  rintro e w' ⟨rfl, rfl⟩
  go_wp2_with fail
  go_ret
  exact ⟨rfl, HB9.out⟩
end Go.Proofs.YtmfdbcfpcifmcaaGreatDoor
