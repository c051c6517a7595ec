/- laws.FnFoundation: true, whatever the candidate. (The opening is written by mklaw.py.) -/
import Derived.Test.YtmfdbcfpcifmcaaGreatDoorMe
import Derived.Test.YtmfdbcfpcifmcaaGreatDoorMg
import Derived.Test.YtmfdbcfpcifmcaaGreatDoorFound
namespace Go.Proofs.YtmfdbcfpcifmcaaGreatDoor
open Go.RowKit Go.Proofs.YtmfdbcfpcifmcaaGreatDoorW.PrintWords Go.Proofs.YtmfdbcfpcifmcaaGreatDoor.PFnFormat

theorem rels_sizes {l8 : List S59} (h : ∀ x ∈ l8, x.f0.size ≤ 2147483647) : ∀ x ∈ l8.map rel60, x.f0.size ≤ 2147483647 := by
  intro x hx
  obtain ⟨y, hy, rfl⟩ := List.mem_map.1 hx
  exact h y hy
theorem exts_sizes {l9 : List S62} (h : ∀ x ∈ l9, x.f0.size ≤ 2147483647 ∧ x.f1.size ≤ 2147483647) : ∀ x ∈ l9.map ext63, x.f0.size ≤ 2147483647 ∧ x.f1.size ≤ 2147483647 := by
  intro x hx
  obtain ⟨y, hy, rfl⟩ := List.mem_map.1 hx
  exact h y hy

theorem word_ne {s : ByteArray} {m : Int} (h : Word s m) : s ≠ ⟨#[32]⟩ := by
  rintro rfl
  have := h.2.2 0 (by decide)
  have e : ((⟨#[32]⟩ : ByteArray)[0]'(by decide)).toNat = 32 := by decide
  rw [e] at this
  unfold isWordChar at this
  omega

/-- The shape that 'made' asks, out of what Proper says. -/
theorem shape_of {k : Nat} {net tcp : Int} {found : ByteArray} {comp prio : Int} {addr : ByteArray} {port : Int} {l8 : List S59} {l9 : List S62} {A8 : Option Addr} {w : World} (hP : IsProper k net tcp found comp prio addr port (l8.map rel60) (l9.map ext63)) (hs : ∀ x ∈ l8, x.f0.size ≤ 2147483647)
    (h8 : Kd.C k59 w A8 l8.length l8) (tcpB : Bool) (ht : tcpB = decide (net = 3 ∨ net = 4)) : Shape k tcpB tcp A8 l8.length w := by
  have hk1 := hP.kind1
  have hk4 := hP.kind4
  by_cases h1 : k = 1
  · exact .inl ⟨h1, by simpa using hP.host.1 (by omega)⟩
  · have hn8 : l8.length = 1 := by
      have a := hP.rels1
      have b := hP.host
      simp only [List.length_map] at a b
      have : l8.length ≠ 0 := fun e => h1 (by have := b.2 e; omega)
      omega
    have hnt : ¬ (net = 3 ∨ net = 4) := fun e => h1 (by have := hP.tcp_host e; omega)
    have htc : tcp = 0 := by
      have a := hP.net_tcp
      have b := hP.tcp0
      have : ¬ 0 < tcp := fun e => hnt (a.2 e)
      omega
    obtain ⟨ad, hA, r0, r1⟩ := at_T59 h8 0 (by omega) (by omega)
    have e0 : ad.add ((0 : Int).toNat * 2) = ad := by simp [Addr.add]
    rw [e0] at r0 r1
    have hm : rd_T59 l8 0 ∈ l8 := by
      have hlt : (0 : Int).toNat < l8.length := by simp; omega
      unfold rd_T59
      rw [List.getD_eq_getElem?_getD, List.getElem?_eq_getElem hlt]
      exact List.getElem_mem hlt
    obtain ⟨q0, q1, q2⟩ := hP.rel_ (rel60 (rd_T59 l8 0)) (List.mem_map.2 ⟨_, hm, rfl⟩)
    have hsz := hs _ hm
    simp only [rel60] at q0 q1 q2
    refine .inr ⟨by omega, by rw [ht]; exact decide_eq_false hnt, htc, hn8, ad, (rd_T59 l8 0).f0, (rd_T59 l8 0).f1.toNat, hA, r0, by rw [r1, Int.toNat_of_nonneg (by omega)], addr_pos q0, by omega, by omega, by omega⟩

theorem netNum_of {net : Int} (h1 : 1 ≤ net) (h4 : net ≤ 4) : net = netNum (decide (net = 3 ∨ net = 4)) (decide (¬ (net = 1 ∨ net = 3))) := by
  have hn : net = 1 ∨ net = 2 ∨ net = 3 ∨ net = 4 := by omega
  rcases hn with rfl | rfl | rfl | rfl <;> rfl

set_option maxRecDepth 100000 in
set_option maxHeartbeats 4000000 in
theorem fnFoundation (kind net tcp : Int) (found : ByteArray) (comp prio : Int) (addr : ByteArray) (port : Int) (A8 A9 : Option Addr) (m8 m9 : Nat) (l8 : List S59) (l9 : List S62) (hc8 : l8.length ≤ m8) (hc9 : l9.length ≤ m9) (a : Int) (b : Int)
    (w : World) (h8 : Kd.C k59 w A8 l8.length l8) (h9 : Kd.C k62 w A9 l9.length l9) (p4 p6 : Addr) (hG : Glob w p4 p6) (T : Nat → Nat) (hT : TabU w T) (hpr0 : 0 ≤ prio) (hpr1 : prio < 4294967296) :
    Calls Tryz.prog 5 #[.agg #[.int .i64 kind, .int .i64 net, .int .i64 tcp, .string found, .int .i64 comp, .int .u32 prio, .string addr, .int .i64 port, .slice A8 l8.length m8, .slice A9 l9.length m9], .int .i64 a, .int .i64 b] w fun e w' =>
      e = .returned (.bool true) ∧ Below w.heap.size w w' := by
  have H8 := Lib.hid h8
  have H9 := Lib.hid h9
  have hb := below_al (Below.refl w.heap.size w) (Nat.le_refl _) (.cells #[.int .i64 kind, .int .i64 net, .int .i64 tcp, .string found, .int .i64 comp, .int .u32 prio, .string addr, .int .i64 port, .slice A8 l8.length m8, .slice A9 l9.length m9] 26)
  have hx := Row.new w 26 #[.int .i64 kind, .int .i64 net, .int .i64 tcp, .string found, .int .i64 comp, .int .u32 prio, .string addr, .int .i64 port, .slice A8 l8.length m8, .slice A9 l9.length m9]
  obtain ⟨kf, rf, hf, hfr⟩ := fits_some kind net tcp found comp prio addr port l8 l9
  have C8 := Kd.C_alloc h8 (.cells #[.int .i64 kind, .int .i64 net, .int .i64 tcp, .string found, .int .i64 comp, .int .u32 prio, .string addr, .int .i64 port, .slice A8 l8.length m8, .slice A9 l9.length m9] 26)
  have C9 := Kd.C_alloc h9 (.cells #[.int .i64 kind, .int .i64 net, .int .i64 tcp, .string found, .int .i64 comp, .int .u32 prio, .string addr, .int .i64 port, .slice A8 l8.length m8, .slice A9 l9.length m9] 26)
  go_enter Tryz.func5, Tryz.ntmps5
  go_wp2_with fail
  generalize w.alloc (.cells #[.int .i64 kind, .int .i64 net, .int .i64 tcp, .string found, .int .i64 comp, .int .u32 prio, .string addr, .int .i64 port, .slice A8 l8.length m8, .slice A9 l9.length m9] 26) = W at *
  refine (laws_zzFits1.calls kf kind net tcp found comp prio addr port A8 m8 l8 A9 m9 l9 rf W C8 hc8 C9 hc9 hf).mono ?_
  rintro e W1 ⟨rfl, hb1⟩
  have hgl := hx.lt
  have hB1 := hb.trans (hb1.mono (Nat.le_of_lt hgl))
  have hx1 := hx.below hb1 hgl
  have D8 := Kd.C_below C8 hb1
  have D9 := Kd.C_below C9 hb1
  have hgl1 := hx1.lt
  clear C8 C9 h8 h9 hx hb hb1 hf
  rcases Bool.eq_false_or_eq_true rf with rfl | rfl
  case inr =>
    go_wp2_with fail
    go_ret
    exact ⟨rfl, hB1⟩
  obtain ⟨n8, n9, sf, sa, s8, s9⟩ := hfr rfl
  have S8 := Lib.hid s8
  have S9 := Lib.hid s9
  clear hfr s8 s9
  have c0 : W1.cell? ⟨w.heap.size, 0, none⟩ = some (.int .i64 kind) := hx1.cell 0
  have c1 : W1.cell? ⟨w.heap.size, 1, none⟩ = some (.int .i64 net) := hx1.cell 1
  have c2 : W1.cell? ⟨w.heap.size, 2, none⟩ = some (.int .i64 tcp) := hx1.cell 2
  have c3 : W1.cell? ⟨w.heap.size, 3, none⟩ = some (.string found) := hx1.cell 3
  have c4 : W1.cell? ⟨w.heap.size, 4, none⟩ = some (.int .i64 comp) := hx1.cell 4
  have c5 : W1.cell? ⟨w.heap.size, 5, none⟩ = some (.int .u32 prio) := hx1.cell 5
  have c6 : W1.cell? ⟨w.heap.size, 6, none⟩ = some (.string addr) := hx1.cell 6
  have c7 : W1.cell? ⟨w.heap.size, 7, none⟩ = some (.int .i64 port) := hx1.cell 7
  have c8 : W1.cell? ⟨w.heap.size, 8, none⟩ = some (.slice A8 l8.length m8) := hx1.cell 8
  have c9 : W1.cell? ⟨w.heap.size, 9, none⟩ = some (.slice A9 l9.length m9) := hx1.cell 9
  go_wp2_with fail
  refine (laws_candidate.calls _ kind net tcp found comp prio addr port A8 m8 l8 A9 m9 l9 kind net tcp found comp prio addr port (l8.map rel60) (l9.map ext63) W1 D8 hc8 D9 hc9 (cand_some kind net tcp found comp prio addr port l8 l9 n8 n9)).mono ?_
  rintro e W2 ⟨v8, v9, rfl, R8, R9, hb2⟩
  obtain ⟨B8, k8, rfl, hk8, E8⟩ := Kd.R_reads R8
  obtain ⟨B9, k9, rfl, hk9, E9⟩ := Kd.R_reads R9
  have hB2 := hB1.trans (hb2.mono (Nat.le_of_lt hgl1))
  have hx2 := hx1.below hb2 hgl1
  have hgl2 := hx2.lt
  clear c0 c1 c2 c3 c4 c5 c6 c7 c8 c9 D8 D9 R8 R9 hx1 hB1 hb2
  go_wp2_with fail
  have G8 := Kd.C_alloc E8 (.cells #[.int .i64 kind, .int .i64 net, .int .i64 tcp, .string found, .int .i64 comp, .int .u32 prio, .string addr, .int .i64 port, .slice B8 l8.length k8, .slice B9 l9.length k9] 31)
  have G9 := Kd.C_alloc E9 (.cells #[.int .i64 kind, .int .i64 net, .int .i64 tcp, .string found, .int .i64 comp, .int .u32 prio, .string addr, .int .i64 port, .slice B8 l8.length k8, .slice B9 l9.length k9] 31)
  have hpr := proper kind net tcp found sf comp prio addr sa port B8 B9 k8 k9 (l8.map rel60) (l9.map ext63) (W2.alloc (.cells #[.int .i64 kind, .int .i64 net, .int .i64 tcp, .string found, .int .i64 comp, .int .u32 prio, .string addr, .int .i64 port, .slice B8 l8.length k8, .slice B9 l9.length k9] 31)) (by simpa using n8) (by simpa using n9) (by simpa using hk9) (rels_sizes S8.out) (exts_sizes S9.out) G8 G9
  simp only [List.length_map] at hpr
  refine hpr.mono ?_
  rintro e W3 ⟨⟨b, rfl, hbP⟩, hb3⟩
  have ho3 : Row W3 W2.heap.size 31 #[.int .i64 kind, .int .i64 net, .int .i64 tcp, .string found, .int .i64 comp, .int .u32 prio, .string addr, .int .i64 port, .slice B8 l8.length k8, .slice B9 l9.length k9] := (Row.new W2 31 #[.int .i64 kind, .int .i64 net, .int .i64 tcp, .string found, .int .i64 comp, .int .u32 prio, .string addr, .int .i64 port, .slice B8 l8.length k8, .slice B9 l9.length k9]).below hb3 (by simp)
  have hx3 := (hx2.alloc (.cells #[.int .i64 kind, .int .i64 net, .int .i64 tcp, .string found, .int .i64 comp, .int .u32 prio, .string addr, .int .i64 port, .slice B8 l8.length k8, .slice B9 l9.length k9] 31)).below hb3 (by simp; omega)
  have hB3 : Below w.heap.size w W3 := (hB2.alloc hB2.size _).trans (hb3.mono (by simp; have := hB2.size; omega))
  have O8 := Lib.hid (Kd.C_below G8 hb3)
  have O9 := Lib.hid (Kd.C_below G9 hb3)
  have hgl3 := hx3.lt
  have hgo3 := ho3.lt
  clear hpr E8 E9 G8 G9 hx2 hB2 hb3
  rcases Bool.eq_false_or_eq_true b with rfl | rfl
  case inr =>
    go_wp2_with fail
    refine (works W3).mono ?_
    rintro e w' ⟨rfl, rfl⟩
    go_wp2_with fail
    go_ret
    exact ⟨rfl, hB3⟩
  have HP := Lib.hid (hbP rfl)
  have HX := Lib.hid hx3
  have HO := Lib.hid ho3
  have HB := Lib.hid hB3
  clear hbP
  have o9 : W3.cell? ⟨W2.heap.size, 9, none⟩ = some (.slice B9 l9.length k9) := ho3.cell 9
  clear ho3
  by_cases hE0 : l9.length ≠ 0
  · have hE1 : decide (0 < l9.length) = true := decide_eq_true (by omega)
    have hE2 : decide ((0 : Int) < l9.length) = true := decide_eq_true (by omega)
    clear hx3 hB3
    go_wp2_with (first | (go_at_call 15; refine (works _).mono ?_; rintro e w' ⟨rfl, rfl⟩))
    go_ret
    exact ⟨rfl, HB.out⟩
  replace hE0 : l9.length = 0 := by omega
  have hE1 : decide (0 < l9.length) = false := decide_eq_false (by omega)
  have hE2 : decide ((0 : Int) < l9.length) = false := decide_eq_false (by omega)
  by_cases hga0 : a < 0
  · have hga0' : decide (a < 0) = true := decide_eq_true hga0
    clear hx3 hB3
    go_wp2_with (first | (go_at_call 15; refine (works _).mono ?_; rintro e w' ⟨rfl, rfl⟩))
    go_ret
    exact ⟨rfl, HB.out⟩
  have hga0' : decide (a < 0) = false := decide_eq_false hga0
  by_cases hga1 : 65535 < a
  · have hga1' : decide (65535 < a) = true := decide_eq_true hga1
    clear hx3 hB3
    go_wp2_with (first | (go_at_call 15; refine (works _).mono ?_; rintro e w' ⟨rfl, rfl⟩))
    go_ret
    exact ⟨rfl, HB.out⟩
  have hga1' : decide (65535 < a) = false := decide_eq_false hga1
  by_cases hgb0 : b < 1
  · have hgb0' : decide (b < 1) = true := decide_eq_true hgb0
    clear hx3 hB3
    go_wp2_with (first | (go_at_call 15; refine (works _).mono ?_; rintro e w' ⟨rfl, rfl⟩))
    go_ret
    exact ⟨rfl, HB.out⟩
  have hgb0' : decide (b < 1) = false := decide_eq_false hgb0
  by_cases hgb1 : 256 < b
  · have hgb1' : decide (256 < b) = true := decide_eq_true hgb1
    clear hx3 hB3
    go_wp2_with (first | (go_at_call 15; refine (works _).mono ?_; rintro e w' ⟨rfl, rfl⟩))
    go_ret
    exact ⟨rfl, HB.out⟩
  have hgb1' : decide (256 < b) = false := decide_eq_false hgb1
  have hP := HP.out
  obtain ⟨k, rfl⟩ : ∃ k : Nat, kind = k := ⟨kind.toNat, by have := hP.kind1; omega⟩
  obtain ⟨comp, rfl⟩ : ∃ n : Nat, comp = n := ⟨comp.toNat, by have := hP.comp1; omega⟩
  obtain ⟨port, rfl⟩ : ∃ n : Nat, port = n := ⟨port.toNat, by have := hP.port0; omega⟩
  obtain ⟨prio, rfl⟩ : ∃ n : Nat, prio = n := ⟨prio.toNat, by omega⟩
  obtain ⟨pa, rfl⟩ : ∃ n : Nat, a = n := ⟨a.toNat, by omega⟩
  obtain ⟨cb, rfl⟩ : ∃ n : Nat, b = n := ⟨b.toNat, by omega⟩
  have hk1 : 1 ≤ k := by have := hP.kind1; omega
  have hk4 : k ≤ 4 := by have := hP.kind4; omega
  have hc1 : 1 ≤ comp := by have := hP.comp1; omega
  have hc2 : comp ≤ 256 := by have := hP.comp256; omega
  have hp1 : port ≤ 65535 := by have := hP.port1; omega
  have hpz := hP.prio0
  have hn1 := hP.net1
  have hn4 := hP.net4
  have ht0 := hP.tcp0
  have ht3 := hP.tcp3
  have ha := hP.addr_
  have hSh0 := shape_of hP S8.out H8.out _ rfl
  clear hP HP
  have hnet := netNum_of hn1 hn4
  generalize decide (net = 3 ∨ net = 4) = tcpB at hnet hSh0
  generalize decide (¬ (net = 1 ∨ net = 3)) = six at hnet ha
  have hx4 := HX.out
  rw [hE0] at hx4
  have c3 : W3.cell? ⟨w.heap.size, 3, none⟩ = some (.string found) := hx4.cell 3
  have f3 := hx4.free 3
  have d0 : W3.cell? ⟨w.heap.size, 0, none⟩ = some (.int .i64 (k : Int)) := hx4.cell 0
  have d1 : W3.cell? ⟨w.heap.size, 1, none⟩ = some (.int .i64 net) := hx4.cell 1
  have d2 : W3.cell? ⟨w.heap.size, 2, none⟩ = some (.int .i64 tcp) := hx4.cell 2
  have d4 : W3.cell? ⟨w.heap.size, 4, none⟩ = some (.int .i64 (comp : Int)) := hx4.cell 4
  have d5 : W3.cell? ⟨w.heap.size, 5, none⟩ = some (.int .u32 (prio : Int)) := hx4.cell 5
  have d6 : W3.cell? ⟨w.heap.size, 6, none⟩ = some (.string addr) := hx4.cell 6
  have d7 : W3.cell? ⟨w.heap.size, 7, none⟩ = some (.int .i64 (port : Int)) := hx4.cell 7
  have d8 : W3.cell? ⟨w.heap.size, 8, none⟩ = some (.slice A8 l8.length m8) := hx4.cell 8
  have d9 : W3.cell? ⟨w.heap.size, 9, none⟩ = some (.slice A9 0 m9) := hx4.cell 9
  subst hnet
  -- the world with both candidates
  have hx5 := (hx4.set 3 (.string ⟨#[]⟩)).alloc (.cells #[.int .i64 (k : Int), .int .i64 (netNum tcpB six), .int .i64 tcp, .string ⟨#[]⟩, .int .i64 (cb : Int), .int .u32 (prio : Int), .string addr, .int .i64 (pa : Int), .slice A8 l8.length m8, .slice A9 0 m9] 26)
  have hB5 := below_al (below_st HB.out (Nat.le_refl _) 3 (.string ⟨#[]⟩)) (Nat.le_refl _) (.cells #[.int .i64 (k : Int), .int .i64 (netNum tcpB six), .int .i64 tcp, .string ⟨#[]⟩, .int .i64 (cb : Int), .int .u32 (prio : Int), .string addr, .int .i64 (pa : Int), .slice A8 l8.length m8, .slice A9 0 m9] 26)
  have hy5 := Row.new (W3.setCell ⟨w.heap.size, 3, none⟩ (.string ⟨#[]⟩)) 26 #[.int .i64 (k : Int), .int .i64 (netNum tcpB six), .int .i64 tcp, .string ⟨#[]⟩, .int .i64 (cb : Int), .int .u32 (prio : Int), .string addr, .int .i64 (pa : Int), .slice A8 l8.length m8, .slice A9 0 m9]
  have hbs : (W3.setCell ⟨w.heap.size, 3, none⟩ (.string ⟨#[]⟩)).heap.size = W3.heap.size := by simp
  rw [hbs] at hy5
  have hSh := hSh0.below hB5 (Nat.le_refl _)
  have hG5 := hG.below hB5
  have hT5 := hT.below hB5 hT.lt
  have hF := Fm.text_size T (foundSum k addr tcpB six) (by have := sum_range (byteOf (kindStr k ++ addr ++ netStr tcpB six)) (kindStr k ++ addr ++ netStr tcpB six).size 0; unfold foundSum; omega)
  have hgv : ∀ (cc pp : Nat), Gives (candOf k (netNum tcpB six) tcp cc prio pp ⟨#[]⟩ addr) T (foundOf T k addr tcpB six) prio := fun cc pp =>
    ⟨fun W g rel h hTW => madeFound h rfl tcpB six rfl (by simp [candOf]; omega) (by simp [candOf]; omega) (by show addr.size ≤ _; omega) T hTW, by unfold foundOf; omega, found_ne T k addr tcpB six,
     fun W g rel h => (ownPrio h (by simpa [candOf] using hpz)).mono fun e w' ⟨he, hw⟩ => ⟨he, hw ▸ Below.refl _ _⟩, by omega⟩
  have hFne := notEmpty (s := foundOf T k addr tcpB six) (by unfold foundOf; omega)
  generalize foundOf T k addr tcpB six = F at hgv hFne
  have HX5 := Lib.hid hx5
  have HY5 := Lib.hid hy5
  have HB5 := Lib.hid hB5
  have hAD := HB5.out.size
  clear hx3 hB3 hx4 hx5 hy5 hB5 HX hSh0 hF
  go_wp2_with fail
  refine (makeAll k hk1 hk4 tcpB six ha (by omega) port comp prio tcp ⟨#[]⟩ hp1 (by omega) ht0 ht3 A8 A9 l8.length m8 m9 T F prio (hgv comp port) _ p4 p6 hG5 hT5 hSh).mono ?_
  rintro e W5 ⟨rp, rn, rq, text, rfl, hb5⟩
  have hy6 := HY5.out.below hb5 HY5.out.lt
  have hB6 := HB5.out.trans (hb5.mono hAD)
  have hSh6 := hSh.below hb5 (Nat.le_refl _)
  have hG6 := hG5.below hb5
  have hT6 := hT5.below hb5 hT5.lt
  have hwl5 := hy6.lt
  have hBA := below_al hB6 (Nat.le_refl _) (.cells #[.int .i64 (k : Int), .int .i64 (netNum tcpB six), .int .i64 tcp, .string F, .int .i64 (comp : Int), .int .u32 (prio : Int), .string addr, .int .i64 (port : Int), .slice rp rn rq, .slice none 0 0] 26)
  have hbA := below_al (Below.refl W5.heap.size W5) (Nat.le_refl _) (.cells #[.int .i64 (k : Int), .int .i64 (netNum tcpB six), .int .i64 tcp, .string F, .int .i64 (comp : Int), .int .u32 (prio : Int), .string addr, .int .i64 (port : Int), .slice rp rn rq, .slice none 0 0] 26)
  have hqA := Row.new W5 26 #[.int .i64 (k : Int), .int .i64 (netNum tcpB six), .int .i64 tcp, .string F, .int .i64 (comp : Int), .int .u32 (prio : Int), .string addr, .int .i64 (port : Int), .slice rp rn rq, .slice none 0 0]
  have hShA := hSh6.below hbA (Nat.le_refl _)
  have hGA := hG6.below hbA
  have hTA := hT6.below hbA hT6.lt
  have e0 : W5.cell? ⟨W3.heap.size, 0, none⟩ = some (.int .i64 (k : Int)) := hy6.cell 0
  have e1 : W5.cell? ⟨W3.heap.size, 1, none⟩ = some (.int .i64 (netNum tcpB six)) := hy6.cell 1
  have e2 : W5.cell? ⟨W3.heap.size, 2, none⟩ = some (.int .i64 tcp) := hy6.cell 2
  have e3 : W5.cell? ⟨W3.heap.size, 3, none⟩ = some (.string ⟨#[]⟩) := hy6.cell 3
  have e4 : W5.cell? ⟨W3.heap.size, 4, none⟩ = some (.int .i64 (cb : Int)) := hy6.cell 4
  have e5 : W5.cell? ⟨W3.heap.size, 5, none⟩ = some (.int .u32 (prio : Int)) := hy6.cell 5
  have e6 : W5.cell? ⟨W3.heap.size, 6, none⟩ = some (.string addr) := hy6.cell 6
  have e7 : W5.cell? ⟨W3.heap.size, 7, none⟩ = some (.int .i64 (pa : Int)) := hy6.cell 7
  have e8 : W5.cell? ⟨W3.heap.size, 8, none⟩ = some (.slice A8 l8.length m8) := hy6.cell 8
  have e9 : W5.cell? ⟨W3.heap.size, 9, none⟩ = some (.slice A9 0 m9) := hy6.cell 9
  have hgq := hqA.lt
  clear c3 f3 d0 d1 d2 d4 d5 d6 d7 d8 d9 o9 hy6 hB6 hSh6 hG6 hT6 hb5 HX5 HY5 HB5 HB HO hbA hG5 hT5 hSh
  have HQA := Lib.hid hqA
  have HBA := Lib.hid hBA
  clear hqA hBA
  go_wp2_with fail
  refine (makeAll k hk1 hk4 tcpB six ha (by omega) pa cb prio tcp ⟨#[]⟩ (by omega) (by omega) ht0 ht3 A8 A9 l8.length m8 m9 T F prio (hgv cb pa) _ p4 p6 hGA hTA hShA).mono ?_
  rintro e W7 ⟨rp2, rn2, rq2, text2, rfl, hb7⟩
  have hq8 := HQA.out.below hb7 hgq
  have hB8 := HBA.out.trans (hb7.mono HBA.out.size)
  have HB9 := Lib.hid (below_al hB8 (Nat.le_refl _) (.cells #[.int .i64 (k : Int), .int .i64 (netNum tcpB six), .int .i64 tcp, .string F, .int .i64 (cb : Int), .int .u32 (prio : Int), .string addr, .int .i64 (pa : Int), .slice rp2 rn2 rq2, .slice none 0 0] 26))
  have q3 : W7.cell? ⟨W5.heap.size, 3, none⟩ = some (.string F) := hq8.cell 3
  have hql := hq8.lt
  clear e0 e1 e2 e3 e4 e5 e6 e7 e8 e9 hq8 hB8 HQA HBA hGA hTA hShA hb7 hgv
  go_wp2_with fail
  refine (works _).mono ?_
  rintro e w' ⟨rfl, rfl⟩
  go_wp2_with fail
  go_ret
  exact ⟨rfl, HB9.out⟩
end Go.Proofs.YtmfdbcfpcifmcaaGreatDoor
