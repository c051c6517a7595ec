/- laws.FnBroken: true, whatever the candidate. (The opening is written by mklaw.py.) -/
import Derived.Test.YtmfdbcfpcifmcaaGreatDoorMe
import Derived.Test.YtmfdbcfpcifmcaaGreatDoorMj
namespace Go.Proofs.YtmfdbcfpcifmcaaGreatDoor
open Go.RowKit Go.Proofs.YtmfdbcfpcifmcaaGreatDoorW.PrintWords Go.Proofs.YtmfdbcfpcifmcaaGreatDoor.PFnFormat

theorem rels_sizes {l8 : List S59} (h : ∀ x ∈ l8, x.f0.size ≤ 2147483647) : ∀ x ∈ l8.map rel60, x.f0.size ≤ 2147483647 := by
  intro x hx
  obtain ⟨y, hy, rfl⟩ := List.mem_map.1 hx
  exact h y hy
theorem exts_sizes {l9 : List S62} (h : ∀ x ∈ l9, x.f0.size ≤ 2147483647 ∧ x.f1.size ≤ 2147483647) : ∀ x ∈ l9.map ext63, x.f0.size ≤ 2147483647 ∧ x.f1.size ≤ 2147483647 := by
  intro x hx
  obtain ⟨y, hy, rfl⟩ := List.mem_map.1 hx
  exact h y hy

theorem fold_size {α : Type} (f : ByteArray → α → ByteArray) (g : α → ByteArray) (hf : ∀ t x, f t x = t ++ g x) (M : Nat) (l : List α) (h : ∀ x ∈ l, (g x).size ≤ M) : ∀ t, (l.foldl f t).size ≤ t.size + l.length * M := by
  induction l with
  | nil => intro t; simp
  | cons a l ih =>
    intro t
    have h1 := ih (fun x hx => h x (List.mem_cons_of_mem _ hx)) (f t a)
    have h2 := h a (List.mem_cons_self ..)
    have e : (f t a).size = t.size + (g a).size := by rw [hf]; simp [ByteArray.size_append]
    rw [List.foldl_cons, List.length_cons, Nat.add_mul]
    omega
theorem text_bound (k : Nat) (tcpB : Bool) (tt : Int) (found addr : ByteArray) (comp prio port : Nat) (rels : List S60) (exts : List S63) (hfs : found.size ≤ 4294967296) (has : addr.size ≤ 4294967296) (hc : comp ≤ 65535) (hp : prio ≤ 4294967295) (hpo : port ≤ 65535)
    (hr1 : rels.length ≤ 1) (hx5 : exts.length ≤ 5) (hrs : ∀ x ∈ rels, x.f0.size ≤ 4294967296 ∧ 0 ≤ x.f1 ∧ x.f1 ≤ 65535) (hxs : ∀ x ∈ exts, x.f0.size ≤ 4294967296 ∧ x.f1.size ≤ 4294967296) :
    (textOf k tcpB tt found comp prio addr port rels exts).size ≤ 4611686018427387904 := by
  obtain ⟨-, sc⟩ := decStr_size comp (by omega)
  obtain ⟨-, sq⟩ := decStr_size prio (by omega)
  obtain ⟨-, so⟩ := decStr_size port (by omega)
  have sk := kindStr_size k
  have ss := tcpStr_size tt
  have htr : (trStr tcpB).size = 3 := by cases tcpB <;> decide
  have h1 : (headOf k tcpB found comp prio addr port).size ≤ 9000000000 := by
    unfold headOf
    simp only [Go.ByteArray.size_append', Go.ByteArray.size_mk', List.size_toArray, List.length_cons, List.length_nil]
    omega
  have h2 := fold_size relAdd (fun x => ⟨#[32, 114, 97, 100, 100, 114, 32]⟩ ++ x.f0 ++ ⟨#[32, 114, 112, 111, 114, 116, 32]⟩ ++ decStr x.f1.toNat) (fun _ _ => rfl) 9000000000 rels (fun x hx => by
    obtain ⟨a, b, c⟩ := hrs x hx
    obtain ⟨-, sd⟩ := decStr_size x.f1.toNat (by omega)
    simp only [Go.ByteArray.size_append', Go.ByteArray.size_mk', List.size_toArray, List.length_cons, List.length_nil]
    omega) (headOf k tcpB found comp prio addr port)
  have h3 : ∀ t, (tcpAdd t tt).size ≤ t.size + 100 := fun t => by
    unfold tcpAdd
    split
    · omega
    · simp only [Go.ByteArray.size_append', Go.ByteArray.size_mk', List.size_toArray, List.length_cons, List.length_nil]
      omega
  have h4 := fold_size extAdd (fun x => ⟨#[32]⟩ ++ x.f0 ++ ⟨#[32]⟩ ++ x.f1) (fun _ _ => rfl) 9000000000 exts (fun x hx => by
    obtain ⟨a, b⟩ := hxs x hx
    simp only [Go.ByteArray.size_append', Go.ByteArray.size_mk', List.size_toArray, List.length_cons, List.length_nil]
    omega) (tcpAdd (rels.foldl relAdd (headOf k tcpB found comp prio addr port)) tt)
  have h5 := h3 (rels.foldl relAdd (headOf k tcpB found comp prio addr port))
  unfold textOf
  have : rels.length * 9000000000 ≤ 1 * 9000000000 := Nat.mul_le_mul_right _ hr1
  have : exts.length * 9000000000 ≤ 5 * 9000000000 := Nat.mul_le_mul_right _ hx5
  omega

set_option maxRecDepth 100000 in
set_option maxHeartbeats 4000000 in
theorem fnBroken (kind net tcp : Int) (found : ByteArray) (comp prio : Int) (addr : ByteArray) (port : Int) (A8 A9 : Option Addr) (m8 m9 : Nat) (l8 : List S59) (l9 : List S62) (hc8 : l8.length ≤ m8) (hc9 : l9.length ≤ m9) (a : Int)
    (w : World) (h8 : Kd.C k59 w A8 l8.length l8) (h9 : Kd.C k62 w A9 l9.length l9) (p4 p6 : Addr) (_hG : Glob w p4 p6) (hpr0 : 0 ≤ prio) (hpr1 : prio < 4294967296) :
    Calls Tryz.prog 7 #[.agg #[.int .i64 kind, .int .i64 net, .int .i64 tcp, .string found, .int .i64 comp, .int .u32 prio, .string addr, .int .i64 port, .slice A8 l8.length m8, .slice A9 l9.length m9], .int .i64 a] w fun e w' =>
      e = .returned (.bool true) ∧ Below w.heap.size w w' := by
  have H8 := Lib.hid h8
  have H9 := Lib.hid h9
  have hb := below_al (Below.refl w.heap.size w) (Nat.le_refl _) (.cells #[.int .i64 kind, .int .i64 net, .int .i64 tcp, .string found, .int .i64 comp, .int .u32 prio, .string addr, .int .i64 port, .slice A8 l8.length m8, .slice A9 l9.length m9] 26)
  have hx := Row.new w 26 #[.int .i64 kind, .int .i64 net, .int .i64 tcp, .string found, .int .i64 comp, .int .u32 prio, .string addr, .int .i64 port, .slice A8 l8.length m8, .slice A9 l9.length m9]
  obtain ⟨kf, rf, hf, hfr⟩ := fits_some kind net tcp found comp prio addr port l8 l9
  have C8 := Kd.C_alloc h8 (.cells #[.int .i64 kind, .int .i64 net, .int .i64 tcp, .string found, .int .i64 comp, .int .u32 prio, .string addr, .int .i64 port, .slice A8 l8.length m8, .slice A9 l9.length m9] 26)
  have C9 := Kd.C_alloc h9 (.cells #[.int .i64 kind, .int .i64 net, .int .i64 tcp, .string found, .int .i64 comp, .int .u32 prio, .string addr, .int .i64 port, .slice A8 l8.length m8, .slice A9 l9.length m9] 26)
  go_enter Tryz.func7, Tryz.ntmps7
  go_wp2_with fail
  generalize w.alloc (.cells #[.int .i64 kind, .int .i64 net, .int .i64 tcp, .string found, .int .i64 comp, .int .u32 prio, .string addr, .int .i64 port, .slice A8 l8.length m8, .slice A9 l9.length m9] 26) = W at *
  refine (laws_zzFits1.calls kf kind net tcp found comp prio addr port A8 m8 l8 A9 m9 l9 rf W C8 hc8 C9 hc9 hf).mono ?_
  rintro e W1 ⟨rfl, hb1⟩
  have hgl := hx.lt
  have hB1 := hb.trans (hb1.mono (Nat.le_of_lt hgl))
  have hx1 := hx.below hb1 hgl
  have D8 := Kd.C_below C8 hb1
  have D9 := Kd.C_below C9 hb1
  have hgl1 := hx1.lt
  clear C8 C9 h8 h9 hx hb hb1 hf
  rcases Bool.eq_false_or_eq_true rf with rfl | rfl
  case inr =>
    go_wp2_with fail
    go_ret
    exact ⟨rfl, hB1⟩
  obtain ⟨n8, n9, sf, sa, s8, s9⟩ := hfr rfl
  have S8 := Lib.hid s8
  have S9 := Lib.hid s9
  clear hfr s8 s9
  have c0 : W1.cell? ⟨w.heap.size, 0, none⟩ = some (.int .i64 kind) := hx1.cell 0
  have c1 : W1.cell? ⟨w.heap.size, 1, none⟩ = some (.int .i64 net) := hx1.cell 1
  have c2 : W1.cell? ⟨w.heap.size, 2, none⟩ = some (.int .i64 tcp) := hx1.cell 2
  have c3 : W1.cell? ⟨w.heap.size, 3, none⟩ = some (.string found) := hx1.cell 3
  have c4 : W1.cell? ⟨w.heap.size, 4, none⟩ = some (.int .i64 comp) := hx1.cell 4
  have c5 : W1.cell? ⟨w.heap.size, 5, none⟩ = some (.int .u32 prio) := hx1.cell 5
  have c6 : W1.cell? ⟨w.heap.size, 6, none⟩ = some (.string addr) := hx1.cell 6
  have c7 : W1.cell? ⟨w.heap.size, 7, none⟩ = some (.int .i64 port) := hx1.cell 7
  have c8 : W1.cell? ⟨w.heap.size, 8, none⟩ = some (.slice A8 l8.length m8) := hx1.cell 8
  have c9 : W1.cell? ⟨w.heap.size, 9, none⟩ = some (.slice A9 l9.length m9) := hx1.cell 9
  go_wp2_with fail
  refine (laws_candidate.calls _ kind net tcp found comp prio addr port A8 m8 l8 A9 m9 l9 kind net tcp found comp prio addr port (l8.map rel60) (l9.map ext63) W1 D8 hc8 D9 hc9 (cand_some kind net tcp found comp prio addr port l8 l9 n8 n9)).mono ?_
  rintro e W2 ⟨v8, v9, rfl, R8, R9, hb2⟩
  obtain ⟨B8, k8, rfl, hk8, E8⟩ := Kd.R_reads R8
  obtain ⟨B9, k9, rfl, hk9, E9⟩ := Kd.R_reads R9
  have hB2 := hB1.trans (hb2.mono (Nat.le_of_lt hgl1))
  have hx2 := hx1.below hb2 hgl1
  have hgl2 := hx2.lt
  clear c0 c1 c2 c3 c4 c5 c6 c7 c8 c9 D8 D9 R8 R9 hx1 hB1 hb2
  go_wp2_with fail
  have G8 := Kd.C_alloc E8 (.cells #[.int .i64 kind, .int .i64 net, .int .i64 tcp, .string found, .int .i64 comp, .int .u32 prio, .string addr, .int .i64 port, .slice B8 l8.length k8, .slice B9 l9.length k9] 31)
  have G9 := Kd.C_alloc E9 (.cells #[.int .i64 kind, .int .i64 net, .int .i64 tcp, .string found, .int .i64 comp, .int .u32 prio, .string addr, .int .i64 port, .slice B8 l8.length k8, .slice B9 l9.length k9] 31)
  have hpr := proper kind net tcp found sf comp prio addr sa port B8 B9 k8 k9 (l8.map rel60) (l9.map ext63) (W2.alloc (.cells #[.int .i64 kind, .int .i64 net, .int .i64 tcp, .string found, .int .i64 comp, .int .u32 prio, .string addr, .int .i64 port, .slice B8 l8.length k8, .slice B9 l9.length k9] 31)) (by simpa using n8) (by simpa using n9) (by simpa using hk9) (rels_sizes S8.out) (exts_sizes S9.out) G8 G9
  simp only [List.length_map] at hpr
  refine hpr.mono ?_
  rintro e W3 ⟨⟨b, rfl, hbP⟩, hb3⟩
  have ho3 : Row W3 W2.heap.size 31 #[.int .i64 kind, .int .i64 net, .int .i64 tcp, .string found, .int .i64 comp, .int .u32 prio, .string addr, .int .i64 port, .slice B8 l8.length k8, .slice B9 l9.length k9] := (Row.new W2 31 #[.int .i64 kind, .int .i64 net, .int .i64 tcp, .string found, .int .i64 comp, .int .u32 prio, .string addr, .int .i64 port, .slice B8 l8.length k8, .slice B9 l9.length k9]).below hb3 (by simp)
  have hx3 := (hx2.alloc (.cells #[.int .i64 kind, .int .i64 net, .int .i64 tcp, .string found, .int .i64 comp, .int .u32 prio, .string addr, .int .i64 port, .slice B8 l8.length k8, .slice B9 l9.length k9] 31)).below hb3 (by simp; omega)
  have hB3 : Below w.heap.size w W3 := (hB2.alloc hB2.size _).trans (hb3.mono (by simp; have := hB2.size; omega))
  have O8 := Lib.hid (Kd.C_below G8 hb3)
  have O9 := Lib.hid (Kd.C_below G9 hb3)
  have hgl3 := hx3.lt
  have hgo3 := ho3.lt
  clear hpr E8 E9 G8 G9 hx2 hB2 hb3
  rcases Bool.eq_false_or_eq_true b with rfl | rfl
  case inr =>
    go_wp2_with fail
    refine (works W3).mono ?_
    rintro e w' ⟨rfl, rfl⟩
    go_wp2_with fail
    go_ret
    exact ⟨rfl, hB3⟩
  have HP := Lib.hid (hbP rfl)
  have HX := Lib.hid hx3
  have HO := Lib.hid ho3
  have HB := Lib.hid hB3
  clear hbP
  clear hx3 ho3 hB3
  have hP := HP.out
  obtain ⟨k, rfl⟩ : ∃ k : Nat, kind = k := ⟨kind.toNat, by have := hP.kind1; omega⟩
  obtain ⟨comp, rfl⟩ : ∃ n : Nat, comp = n := ⟨comp.toNat, by have := hP.comp1; omega⟩
  obtain ⟨port, rfl⟩ : ∃ n : Nat, port = n := ⟨port.toNat, by have := hP.port0; omega⟩
  obtain ⟨prio, rfl⟩ : ∃ n : Nat, prio = n := ⟨prio.toNat, by omega⟩
  have hk1 : 1 ≤ k := by have := hP.kind1; omega
  have hk4 : k ≤ 4 := by have := hP.kind4; omega
  have hc2 : comp ≤ 65535 := by have := hP.comp256; omega
  have hp1 : port ≤ 65535 := by have := hP.port1; omega
  have hr1 : (l8.map rel60).length ≤ 1 := hP.rels1
  have hx5 : (l9.map ext63).length ≤ 5 := hP.exts5
  have hrs : ∀ x ∈ l8.map rel60, x.f0.size ≤ 4294967296 ∧ 0 ≤ x.f1 ∧ x.f1 ≤ 65535 := fun x hx => by
    have h1 := rels_sizes S8.out x hx
    obtain ⟨-, h2, h3⟩ := hP.rel_ x hx
    omega
  have hxs : ∀ x ∈ l9.map ext63, x.f0.size ≤ 4294967296 ∧ x.f1.size ≤ 4294967296 := fun x hx => by
    have h1 := exts_sizes S9.out x hx
    omega
  obtain ⟨tcpB, hTB⟩ : ∃ b, (net == 3 || net == 4) = b := ⟨_, rfl⟩
  have hTx := specText k hk1 hk4 net tcp tcpB hTB hP.tcp0 hP.tcp3 found addr (by omega) (by omega) comp prio port hc2 (by omega) hp1 B8 B9 k8 k9 (l8.map rel60) (l9.map ext63) hr1 hx5 hrs hxs W3 O8.out O9.out
  have h7 := sevenText k tcpB _ tcp found hP.found_ comp prio addr hP.addr_ port hc2 (by omega) hp1 (l8.map rel60) (l9.map ext63)
  have htb := text_bound k tcpB tcp found addr comp prio port (l8.map rel60) (l9.map ext63) (by omega) (by omega) hc2 (by omega) hp1 hr1 hx5 hrs hxs
  simp only [List.length_map] at hTx
  generalize textOf k tcpB tcp found comp prio addr port (l8.map rel60) (l9.map ext63) = t at *
  have HTX := Lib.hid hTx
  have H7 := Lib.hid h7
  have o0 : W3.cell? ⟨W2.heap.size, 0, none⟩ = some (.int .i64 (k : Int)) := HO.out.cell 0
  have o1 : W3.cell? ⟨W2.heap.size, 1, none⟩ = some (.int .i64 net) := HO.out.cell 1
  have o2 : W3.cell? ⟨W2.heap.size, 2, none⟩ = some (.int .i64 tcp) := HO.out.cell 2
  have o3 : W3.cell? ⟨W2.heap.size, 3, none⟩ = some (.string found) := HO.out.cell 3
  have o4 : W3.cell? ⟨W2.heap.size, 4, none⟩ = some (.int .i64 (comp : Int)) := HO.out.cell 4
  have o5 : W3.cell? ⟨W2.heap.size, 5, none⟩ = some (.int .u32 (prio : Int)) := HO.out.cell 5
  have o6 : W3.cell? ⟨W2.heap.size, 6, none⟩ = some (.string addr) := HO.out.cell 6
  have o7 : W3.cell? ⟨W2.heap.size, 7, none⟩ = some (.int .i64 (port : Int)) := HO.out.cell 7
  have o8 : W3.cell? ⟨W2.heap.size, 8, none⟩ = some (.slice B8 l8.length k8) := HO.out.cell 8
  have o9 : W3.cell? ⟨W2.heap.size, 9, none⟩ = some (.slice B9 l9.length k9) := HO.out.cell 9
  clear hP HP hTx h7 hrs hxs hr1 hx5 HX HO O8 O9 S8 S9 H8 H9 hTB hpr0 hpr1
  go_wp2_with fail
  refine HTX.out.mono ?_
  rintro e W4 ⟨rfl, hb4⟩
  have hB4 := Lib.hid (HB.out.trans (hb4.mono (Nat.le_of_lt hgl3)))
  have hle4 : w.heap.size ≤ W4.heap.size := hB4.out.size
  clear o0 o1 o2 o3 o4 o5 o6 o7 o8 o9 hb4 HTX HB
  by_cases ha : a < 0 ∨ 7 < a
  · go_wp2_with fail
    refine (firstOut t a ha _).mono ?_
    rintro e w' ⟨rfl, rfl⟩
    clear ha
    go_wp2_with fail
    refine (works _).mono ?_
    rintro e w' ⟨rfl, rfl⟩
    go_wp2_with fail
    go_ret
    exact ⟨rfl, hB4.out⟩
  obtain ⟨n, rfl⟩ : ∃ n : Nat, a = n := ⟨a.toNat, by omega⟩
  have hn7 : n ≤ 7 := by omega
  clear ha
  obtain ⟨raw, hF, hU⟩ : ∃ raw : ByteArray, (∀ W, Calls Tryz.prog 23 #[.string t, .int .i64 (n : Int)] W fun e w' => e = .returned (.tuple #[.string raw, .bool true]) ∧ w' = W) ∧ Hid (∀ W, Calls Tryz.prog 47 #[.string raw] W fun e w' => ∃ v : Value, e = .returned (.tuple #[.nilIface, .iface 132 v]) ∧ Below W.heap.size W w') := by
    by_cases hn0 : n = 0
    · subst hn0
      exact ⟨⟨#[]⟩, fun W => firstNone t htb W, Lib.hid fun W => unmNone W⟩
    · obtain ⟨m, rfl⟩ : ∃ m, n = m + 1 := ⟨n - 1, by omega⟩
      have hm : m < 7 := by omega
      have hsz := H7.out.size
      have hel := H7.out.end_le m 6 (by omega) (by omega)
      exact ⟨_, fun W => firstWords t htb (m + 1) (by omega) (by omega) _ (by omega) (H7.out.space m hm) (by rw [H7.out.count m hm]) W, Lib.hid fun W => H7.out.fails htb m hm W⟩
  clear H7
  go_wp2_with fail
  refine (hF _).mono ?_
  rintro e w' ⟨rfl, rfl⟩
  clear hF
  go_wp2_with fail
  refine (parseFails raw hU.out _).mono ?_
  rintro e W5 ⟨rfl, hb5⟩
  have hB5 := Lib.hid (below_al (hB4.out.trans (hb5.mono hle4)) (Nat.le_refl _) (.cells #[.int .i64 0, .int .i64 0, .int .i64 0, .string ⟨#[]⟩, .int .i64 0, .int .u32 0, .string ⟨#[]⟩, .int .i64 0, .slice none 0 0, .slice none 0 0] 26))
  clear hb5 hB4 hU
  go_wp2_with fail
  refine (works _).mono ?_
  rintro e w' ⟨rfl, rfl⟩
  go_wp2_with fail
  go_ret
  exact ⟨rfl, hB5.out⟩
end Go.Proofs.YtmfdbcfpcifmcaaGreatDoor
