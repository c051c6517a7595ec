/- spec.Text: the text of a candidate. -/
import Derived.Test.YtmfdbcfpcifmcaaGreatDoorDec
import Derived.Test.YtmfdbcfpcifmcaaGreatDoorMd
import Derived.Test.YtmfdbcfpcifmcaaGreatDoorPFnFormatx0
namespace Go.Proofs.YtmfdbcfpcifmcaaGreatDoor
open Go.RowKit Go.Proofs.YtmfdbcfpcifmcaaGreatDoorW.PrintWords Go.Proofs.YtmfdbcfpcifmcaaGreatDoor.PFnFormat

def sp1 : ByteArray := ⟨#[32]⟩
def trStr (tcpB : Bool) : ByteArray := if tcpB then ⟨#[116, 99, 112]⟩ else ⟨#[117, 100, 112]⟩
/-- The first eight words. -/
def headOf (k : Nat) (tcpB : Bool) (found : ByteArray) (comp prio : Nat) (addr : ByteArray) (port : Nat) : ByteArray :=
  found ++ ⟨#[32]⟩ ++ decStr comp ++ ⟨#[32]⟩ ++ trStr tcpB ++ ⟨#[32]⟩ ++ decStr prio ++ ⟨#[32]⟩ ++ addr ++ ⟨#[32]⟩ ++ decStr port ++ ⟨#[32, 116, 121, 112, 32]⟩ ++ kindStr k
def relAdd (t : ByteArray) (x : S60) : ByteArray := t ++ (⟨#[32, 114, 97, 100, 100, 114, 32]⟩ ++ x.f0 ++ ⟨#[32, 114, 112, 111, 114, 116, 32]⟩ ++ decStr x.f1.toNat)
def tcpAdd (t : ByteArray) (tt : Int) : ByteArray := if tt = 0 then t else t ++ (⟨#[32, 116, 99, 112, 116, 121, 112, 101, 32]⟩ ++ tcpStr tt)
def extAdd (t : ByteArray) (x : S63) : ByteArray := t ++ (⟨#[32]⟩ ++ x.f0 ++ ⟨#[32]⟩ ++ x.f1)
def textOf (k : Nat) (tcpB : Bool) (tt : Int) (found : ByteArray) (comp prio : Nat) (addr : ByteArray) (port : Nat) (rels : List S60) (exts : List S63) : ByteArray :=
  exts.foldl extAdd (tcpAdd (rels.foldl relAdd (headOf k tcpB found comp prio addr port)) tt)

theorem decStr_size (u : Nat) (h : u < 4294967296) : 1 ≤ (decStr u).size ∧ (decStr u).size ≤ 20 := by
  have e : (decStr u).size = (Lib.decDigits u).length := by simp [decStr, ByteArray.size]
  rw [e, Lib.decDigits_length]
  refine ⟨Lib.nDigits_pos u, ?_⟩
  by_cases h0 : u = 0
  · subst h0
    rw [Lib.nDigits_small (by omega)]
    omega
  · have := (Lib.numDigits_eq u (by omega) (by omega))
    split at this <;> omega

structure StrIs (a b : ByteArray) : Prop where
  eq : a = b

/-- What lies in memory behind the head. -/
structure After (w W : World) (g : Nat) (A8 A9 : Option Addr) (m8 m9 k : Nat) (net tt : Int) (found : ByteArray) (comp prio : Nat) (addr : ByteArray) (port : Nat) (rels : List S60) (exts : List S63) (_u : Unit) : Prop where
  row : Row W g 31 #[.int .i64 (k : Int), .int .i64 net, .int .i64 tt, .string found, .int .i64 (comp : Int), .int .u32 (prio : Int), .string addr, .int .i64 (port : Int), .slice A8 rels.length m8, .slice A9 exts.length m9]
  low : Below g w W
  h8 : Kd.C k60 W A8 rels.length rels
  h9 : Kd.C k63 W A9 exts.length exts
structure NEq (a b : Nat) : Prop where
  eq : a = b
structure LowAt (a w : World) : Prop where
  h : Below a.heap.size a w

set_option maxRecDepth 100000 in
set_option maxHeartbeats 4000000 in
theorem specText (k : Nat) (hk1 : 1 ≤ k) (hk4 : k ≤ 4) (net tt : Int) (tcpB : Bool) (hnt : (net == 3 || net == 4) = tcpB) (ht0 : 0 ≤ tt) (ht3 : tt ≤ 3) (found addr : ByteArray) (hfs : found.size ≤ 4294967296) (has : addr.size ≤ 4294967296) (comp prio port : Nat)
    (hc : comp ≤ 65535) (hp : prio ≤ 4294967295) (hpo : port ≤ 65535) (A8 A9 : Option Addr) (m8 m9 : Nat) (rels : List S60) (exts : List S63) (hr1 : rels.length ≤ 1) (hx5 : exts.length ≤ 5)
    (hrs : ∀ x ∈ rels, x.f0.size ≤ 4294967296 ∧ 0 ≤ x.f1 ∧ x.f1 ≤ 65535) (hxs : ∀ x ∈ exts, x.f0.size ≤ 4294967296 ∧ x.f1.size ≤ 4294967296) (w : World)
    (h8 : Kd.C k60 w A8 rels.length rels) (h9 : Kd.C k63 w A9 exts.length exts) :
    Calls Tryz.prog 24 #[.agg #[.int .i64 (k : Int), .int .i64 net, .int .i64 tt, .string found, .int .i64 (comp : Int), .int .u32 (prio : Int), .string addr, .int .i64 (port : Int), .slice A8 rels.length m8, .slice A9 exts.length m9]] w fun e w' =>
      e = .returned (.string (textOf k tcpB tt found comp prio addr port rels exts)) ∧ Below w.heap.size w w' := by
  obtain ⟨txt, hX⟩ : ∃ t, StrIs t (textOf k tcpB tt found comp prio addr port rels exts) := ⟨_, ⟨rfl⟩⟩
  rw [← hX.eq]
  obtain ⟨hd, hH⟩ : ∃ t, StrIs t (headOf k tcpB found comp prio addr port) := ⟨_, ⟨rfl⟩⟩
  have hb := below_al (Below.refl w.heap.size w) (Nat.le_refl _) (.cells #[.int .i64 (k : Int), .int .i64 net, .int .i64 tt, .string found, .int .i64 (comp : Int), .int .u32 (prio : Int), .string addr, .int .i64 (port : Int), .slice A8 rels.length m8, .slice A9 exts.length m9] 31)
  have hx := Row.new w 31 #[.int .i64 (k : Int), .int .i64 net, .int .i64 tt, .string found, .int .i64 (comp : Int), .int .u32 (prio : Int), .string addr, .int .i64 (port : Int), .slice A8 rels.length m8, .slice A9 exts.length m9]
  have C8 := Lib.hid (Kd.C_alloc h8 (.cells #[.int .i64 (k : Int), .int .i64 net, .int .i64 tt, .string found, .int .i64 (comp : Int), .int .u32 (prio : Int), .string addr, .int .i64 (port : Int), .slice A8 rels.length m8, .slice A9 exts.length m9] 31))
  have C9 := Lib.hid (Kd.C_alloc h9 (.cells #[.int .i64 (k : Int), .int .i64 net, .int .i64 tt, .string found, .int .i64 (comp : Int), .int .u32 (prio : Int), .string addr, .int .i64 (port : Int), .slice A8 rels.length m8, .slice A9 exts.length m9] 31))
  clear h8 h9
  go_enter Tryz.func24, Tryz.ntmps24
  go_wp2_with fail
  generalize w.alloc (.cells #[.int .i64 (k : Int), .int .i64 net, .int .i64 tt, .string found, .int .i64 (comp : Int), .int .u32 (prio : Int), .string addr, .int .i64 (port : Int), .slice A8 rels.length m8, .slice A9 exts.length m9] 31) = W at *
  have hgl := hx.lt
  have HX := Lib.hid hx
  have HB := Lib.hid hb
  have c1 : W.cell? ⟨w.heap.size, 1, none⟩ = some (.int .i64 net) := hx.cell 1
  have x0 := hx.cell 0
  have x3 := hx.cell 3
  have x4 := hx.cell 4
  have x5 := hx.cell 5
  have x6 := hx.cell 6
  have x7 := hx.cell 7
  generalize hgw : w.heap.size = g at *
  have HGW : NEq w.heap.size g := ⟨hgw⟩
  clear hgw
  clear hb hx
  have d0 : W.drew.cell? ⟨g, 0, none⟩ = some (.int .i64 (k : Int)) := x0
  have d3 : W.drew.cell? ⟨g, 3, none⟩ = some (.string found) := x3
  have d4 : W.drew.cell? ⟨g, 4, none⟩ = some (.int .i64 (comp : Int)) := x4
  have d5 : W.drew.cell? ⟨g, 5, none⟩ = some (.int .u32 (prio : Int)) := x5
  have d6 : W.drew.cell? ⟨g, 6, none⟩ = some (.string addr) := x6
  have d7 : W.drew.cell? ⟨g, 7, none⟩ = some (.int .i64 (port : Int)) := x7
  clear x0 x3 x4 x5 x6 x7
  refine (specTcpV net tcpB hnt _).mono ?_
  rintro e W ⟨rfl, rfl⟩
  have HC := fun W => decimal comp (by omega) W
  have HPr := fun W => decimal prio (by omega) W
  have HPo := fun W => decimal port (by omega) W
  have HK := fun W => kindText k hk1 hk4 W
  obtain ⟨-, sc⟩ := decStr_size comp (by omega)
  obtain ⟨-, sq⟩ := decStr_size prio (by omega)
  obtain ⟨-, so⟩ := decStr_size port (by omega)
  have sk := kindStr_size k
  have htr : Hid ((trStr tcpB).size = 3) := Lib.hid (by cases tcpB <;> decide)
  have wc : IntKind.u64.wrap (comp : Int) = (comp : Int) := by rw [IntKind.wrap_u64]; omega
  have wq : IntKind.u64.wrap (prio : Int) = (prio : Int) := by rw [IntKind.wrap_u64]; omega
  have wo : IntKind.u64.wrap (port : Int) = (port : Int) := by rw [IntKind.wrap_u64]; omega
  have hHd : StrIs hd (found ++ ⟨#[32]⟩ ++ decStr comp ++ ⟨#[32]⟩ ++ trStr tcpB ++ ⟨#[32]⟩ ++ decStr prio ++ ⟨#[32]⟩ ++ addr ++ ⟨#[32]⟩ ++ decStr port ++ ⟨#[32, 116, 121, 112, 32]⟩ ++ kindStr k) := ⟨hH.eq⟩
  have htt : Hid (trStr tcpB = if tcpB then ⟨#[116, 99, 112]⟩ else ⟨#[117, 100, 112]⟩) := Lib.hid rfl
  generalize decStr comp = tc at *
  generalize decStr prio = tq at *
  generalize decStr port = tpo at *
  generalize kindStr k = tk at *
  generalize trStr tcpB = tr at *
  have shd : hd.size ≤ 9000000000 := by
    rw [hHd.eq]
    have := htr.out
    simp only [Go.ByteArray.size_append', Go.ByteArray.size_mk', List.size_toArray, List.length_cons, List.length_nil]
    omega
  have hl := hgl
  have hcut : ∀ {A : Prop}, A → A := fun h => h
  cases tcpB with
  | true =>
    go_wp2_with fail
    rw [show (⟨#[116, 99, 112]⟩ : ByteArray) = tr from htt.out.symm]
    have ht3s := htr.out
    have k1 : ¬ 9223372036854775807 < found.size + 1 := by omega
    have k2 : ¬ 9223372036854775807 < found.size + 1 + tc.size := by omega
    have k3 : ¬ 9223372036854775807 < found.size + 1 + tc.size + 1 := by omega
    have k4 : ¬ 9223372036854775807 < found.size + 1 + tc.size + 1 + tr.size := by omega
    have k5 : ¬ 9223372036854775807 < found.size + 1 + tc.size + 1 + tr.size + 1 := by omega
    have k6 : ¬ 9223372036854775807 < found.size + 1 + tc.size + 1 + tr.size + 1 + tq.size := by omega
    have k7 : ¬ 9223372036854775807 < found.size + 1 + tc.size + 1 + tr.size + 1 + tq.size + 1 := by omega
    have k8 : ¬ 9223372036854775807 < found.size + 1 + tc.size + 1 + tr.size + 1 + tq.size + 1 + addr.size := by omega
    have k9 : ¬ 9223372036854775807 < found.size + 1 + tc.size + 1 + tr.size + 1 + tq.size + 1 + addr.size + 1 := by omega
    have k10 : ¬ 9223372036854775807 < found.size + 1 + tc.size + 1 + tr.size + 1 + tq.size + 1 + addr.size + 1 + tpo.size := by omega
    have k11 : ¬ 9223372036854775807 < found.size + 1 + tc.size + 1 + tr.size + 1 + tq.size + 1 + addr.size + 1 + tpo.size + 5 := by omega
    have k12 : ¬ 9223372036854775807 < found.size + 1 + tc.size + 1 + tr.size + 1 + tq.size + 1 + addr.size + 1 + tpo.size + 5 + tk.size := by omega
    clear ht3s
    go_region_held (fun w' => w'.cell? ⟨g, 0, none⟩ = some (.int .i64 (k : Int)) ∧ w'.cell? ⟨g, 3, none⟩ = some (.string found) ∧ w'.cell? ⟨g, 4, none⟩ = some (.int .i64 (comp : Int)) ∧ w'.cell? ⟨g, 5, none⟩ = some (.int .u32 (prio : Int)) ∧ w'.cell? ⟨g, 6, none⟩ = some (.string addr) ∧ w'.cell? ⟨g, 7, none⟩ = some (.int .i64 (port : Int)))
      (first
        | exact ⟨d0, d3, d4, d5, d6, d7⟩
        | exact ⟨(hb1.cell (by simpa using hl)).trans d0, (hb1.cell (by simpa using hl)).trans d3, (hb1.cell (by simpa using hl)).trans d4, (hb1.cell (by simpa using hl)).trans d5, (hb1.cell (by simpa using hl)).trans d6, (hb1.cell (by simpa using hl)).trans d7⟩
        | exact ⟨(hb2.cell (by simpa using hl)).trans d0, (hb2.cell (by simpa using hl)).trans d3, (hb2.cell (by simpa using hl)).trans d4, (hb2.cell (by simpa using hl)).trans d5, (hb2.cell (by simpa using hl)).trans d6, (hb2.cell (by simpa using hl)).trans d7⟩
        | exact ⟨(hb3.cell (by simpa using hl)).trans d0, (hb3.cell (by simpa using hl)).trans d3, (hb3.cell (by simpa using hl)).trans d4, (hb3.cell (by simpa using hl)).trans d5, (hb3.cell (by simpa using hl)).trans d6, (hb3.cell (by simpa using hl)).trans d7⟩
        | exact ⟨(hb4.cell (by simpa using hl)).trans d0, (hb4.cell (by simpa using hl)).trans d3, (hb4.cell (by simpa using hl)).trans d4, (hb4.cell (by simpa using hl)).trans d5, (hb4.cell (by simpa using hl)).trans d6, (hb4.cell (by simpa using hl)).trans d7⟩)
      (first
        | (go_at_call_of 43 (Value.int .u64 (comp : Int)); refine (HC _).mono ?_; rintro e w1 ⟨rfl, hb1⟩)
        | (go_at_call_of 43 (Value.int .u64 (prio : Int)); refine (HPr _).mono ?_; rintro e w2 ⟨rfl, hx2⟩; have hb2 := hb1.trans (hx2.mono hb1.size))
        | (go_at_call_of 43 (Value.int .u64 (port : Int)); refine (HPo _).mono ?_; rintro e w3 ⟨rfl, hx3⟩; have hb3 := hb2.trans (hx3.mono hb2.size))
        | (go_at_call 44; refine (HK _).mono ?_; rintro e w4 ⟨rfl, hx4⟩; have hb4 := hb3.trans (hx4.mono hb3.size)))
    have hb4' := hb4
    clear hb1 hb2 hb3 hx2 hx3 hx4 hb4
    have hBd : Below W.heap.size W w4 := (below_drewN (Below.refl W.heap.size W) 1).trans hb4'
    have hxR := HX.out.below hBd HX.out.lt
    have hBR := HB.out.trans (hBd.mono (Nat.le_of_lt hgl))
    have hC8 := Kd.C_below C8.out hBd
    have hC9 := Kd.C_below C9.out hBd
    rename_i hHeld
    rw [← hHd.eq]
    have hg4 := hxR.lt
    obtain ⟨A, hA⟩ : ∃ A, After w w4 g A8 A9 m8 m9 k net tt found comp prio addr port rels exts A := ⟨(), ⟨hxR, hBR, hC8, hC9⟩⟩
    have c8 : w4.cell? ⟨g, 8, none⟩ = some (.slice A8 rels.length m8) := hxR.cell 8
    clear hHeld hBd hb4' k1 k2 k3 k4 k5 k6 k7 k8 k9 k10 k11 k12 d0 d3 d4 d5 d6 d7 c1 C8 C9 HX HB htt htr HC HPr HPo HK sc sq so sk wc wq wo hHd hcut hxR hBR hC8 hC9
    go_wp2_with fail
    go_loopw [4, 47] (fun vt vi wr => ∃ (i : Nat) (t : ByteArray), vt = .string t ∧ vi = .int .i64 i ∧ i ≤ rels.length ∧ StrIs t ((rels.take i).foldl relAdd hd) ∧ t.size ≤ 9000000000 + i * 9000000000 ∧ LowAt w4 wr) (fun _ vi _ => rels.length - (intOf vi).toNat)
    case atStart => exact ⟨0, hd, rfl, rfl, Nat.zero_le _, ⟨rfl⟩, by omega, ⟨Below.refl _ _⟩⟩
    case round =>
      obtain ⟨i, t, rfl, rfl, hi, ht, hts, hlo⟩ := hrel
      by_cases hlt : i < rels.length
      · obtain rfl : i = 0 := by omega
        obtain ⟨ad, rfl, r0, r1⟩ := at_T60 (Kd.C_below hA.h8 hlo.h) 0 (by omega) (by omega)
        have e0 : ad.add ((0 : Int).toNat * 2) = ad := by simp [Addr.add]
        rw [e0] at r0 r1
        have hmem : rd_T60 rels 0 ∈ rels := by
          have hlt' : (0 : Int).toNat < rels.length := by simp; omega
          unfold rd_T60
          rw [List.getD_eq_getElem?_getD, List.getElem?_eq_getElem hlt']
          exact List.getElem_mem hlt'
        obtain ⟨q0, q1, q2⟩ := hrs _ hmem
        have htake : StrIs (relAdd t (rd_T60 rels 0)) ((rels.take 1).foldl relAdd hd) := ⟨by
          rw [ht.eq]
          have hlt' : (0 : Int).toNat < rels.length := by simp; omega
          have : rels.take 1 = [rd_T60 rels 0] := by
            unfold rd_T60
            cases rels with
            | nil => simp at hlt
            | cons a l => simp
          rw [this]
          rfl⟩
        obtain ⟨rp, hrp⟩ : ∃ n : Nat, (rd_T60 rels 0).f1 = (n : Int) := ⟨(rd_T60 rels 0).f1.toNat, by omega⟩
        have hrp2 : rp ≤ 65535 := by omega
        have htk : StrIs (t ++ (⟨#[32, 114, 97, 100, 100, 114, 32]⟩ ++ (rd_T60 rels 0).f0 ++ ⟨#[32, 114, 112, 111, 114, 116, 32]⟩ ++ decStr rp)) ((rels.take 1).foldl relAdd hd) := ⟨by
          rw [← htake.eq]
          unfold relAdd
          rw [hrp]
          rfl⟩
        rw [hrp] at r1
        have HR := fun W => decimal rp (by omega) W
        obtain ⟨-, sr⟩ := decStr_size rp (by omega)
        clear htake hmem hrp q1 q2 e0
        generalize (rd_T60 rels 0).f0 = ra at *
        generalize decStr rp = dr at *
        have wr16 : IntKind.u64.wrap (rp : Int) = (rp : Int) := by rw [IntKind.wrap_u64]; omega
        have hrl := World.block_lt_of_cell? _ _ r0
        have hz1 : LowAt w4 (wr.alloc (.cells #[.string ra, .int .i64 (rp : Int)] 60)).drew := ⟨below_drewN (below_al hlo.h (Nat.le_refl _) _) 1⟩
        have hq := Row.new wr 60 #[.string ra, .int .i64 (rp : Int)]
        have z0 : (wr.alloc (.cells #[.string ra, .int .i64 (rp : Int)] 60)).drew.cell? ⟨wr.heap.size, 0, none⟩ = some (.string ra) := hq.cell 0
        have z1 : (wr.alloc (.cells #[.string ra, .int .i64 (rp : Int)] 60)).drew.cell? ⟨wr.heap.size, 1, none⟩ = some (.int .i64 (rp : Int)) := hq.cell 1
        have zl : wr.heap.size < (wr.alloc (.cells #[.string ra, .int .i64 (rp : Int)] 60)).drew.heap.size := hq.lt
        clear hq
        have n1 : ¬ 9223372036854775807 < 7 + ra.size := by omega
        have n2 : ¬ 9223372036854775807 < 7 + ra.size + 7 := by omega
        have n3 : ¬ 9223372036854775807 < 7 + ra.size + 7 + dr.size := by omega
        have n4 : ¬ 9223372036854775807 < t.size + (7 + ra.size + 7 + dr.size) := by omega
        go_wp2_with fail
        generalize (wr.alloc (.cells #[.string ra, .int .i64 (rp : Int)] 60)) = V at *
        go_region_held (fun w' => w'.cell? ⟨wr.heap.size, 0, none⟩ = some (.string ra) ∧ w'.cell? ⟨wr.heap.size, 1, none⟩ = some (.int .i64 (rp : Int)))
          (first
            | exact ⟨z0, z1⟩
            | exact ⟨(hbr.cell (by simpa using zl)).trans z0, (hbr.cell (by simpa using zl)).trans z1⟩)
          (first | (go_at_call 43; refine (HR _).mono ?_; rintro e wz ⟨rfl, hbr⟩))
        rename_i hHeld2
        clear hHeld2 z0 z1 n1 n2 n3 n4
        have hz2 : LowAt w4 wz := ⟨hz1.h.trans (hbr.mono hz1.h.size)⟩
        go_wp2_with fail
        go_roundw
        case rel => exact ⟨1, _, rfl, by first | rfl | go_num, by omega, htk, by simp only [Go.ByteArray.size_append', Go.ByteArray.size_mk', List.size_toArray, List.length_cons, List.length_nil]; omega, hz2⟩
        case measure => simp [intOf]; omega
      · obtain rfl : i = rels.length := by omega
        have hxr := hA.row.below hlo.h hA.row.lt
        have c2 : wr.cell? ⟨g, 2, none⟩ = some (.int .i64 tt) := hxr.cell 2
        have c9 : wr.cell? ⟨g, 9, none⟩ = some (.slice A9 exts.length m9) := hxr.cell 9
        have hgr := hxr.lt
        by_cases htt0 : tt = 0
        · subst htt0
          obtain ⟨t2, ht2, hs2⟩ : ∃ t2, StrIs t2 (tcpAdd t 0) ∧ t2 = t := ⟨t, ⟨by simp [tcpAdd]⟩, rfl⟩
          subst hs2
          have hlo2 : LowAt w4 wr := hlo
          clear hxr
          have hEl : exts.length ≤ 9223372036854775807 := by omega
          go_wp2_with fail
          go_loopw [4, 75] (fun vt vi wr => ∃ (j : Nat) (s : ByteArray), vt = .string s ∧ vi = .int .i64 j ∧ j ≤ exts.length ∧ StrIs s ((exts.take j).foldl extAdd t2) ∧ s.size ≤ 30000000000 + j * 9000000000 ∧ LowAt w4 wr) (fun _ vi _ => exts.length - (intOf vi).toNat)
          case atStart => exact ⟨0, t2, rfl, rfl, Nat.zero_le _, ⟨rfl⟩, by omega, hlo2⟩
          case round =>
            obtain ⟨j, s, rfl, rfl, hj, hs, hss, hlo3⟩ := hrel
            rename World => W3
            by_cases hlt2 : j < exts.length
            · obtain ⟨ad2, hA9, s0, s1⟩ := at_T63 (Kd.C_below hA.h9 hlo3.h) j (by omega) (by omega)
              have ej : ((j : Int).toNat) = j := by omega
              rw [ej] at s0 s1
              have hmem2 : rd_T63 exts j ∈ exts := by
                unfold rd_T63
                rw [ej, List.getD_eq_getElem?_getD, List.getElem?_eq_getElem hlt2]
                exact List.getElem_mem hlt2
              obtain ⟨p0, p1⟩ := hxs _ hmem2
              have htake2 : StrIs (s ++ (⟨#[32]⟩ ++ (rd_T63 exts j).f0 ++ ⟨#[32]⟩ ++ (rd_T63 exts j).f1)) ((exts.take (j + 1)).foldl extAdd t2) := ⟨by
                rw [List.take_succ_eq_append_getElem hlt2, List.foldl_append, ← hs.eq]
                have : rd_T63 exts j = exts[j] := by
                  unfold rd_T63
                  rw [ej, List.getD_eq_getElem?_getD, List.getElem?_eq_getElem hlt2]
                  rfl
                rw [this]
                rfl⟩
              subst hA9
              generalize (rd_T63 exts j).f0 = key at *
              generalize (rd_T63 exts j).f1 = val at *
              have hw3l := World.block_lt_of_cell? _ _ s0
              go_wp2_with fail
              go_roundw
              case rel => exact ⟨j + 1, _, rfl, by go_num, by omega, htake2, by simp only [Go.ByteArray.size_append', Go.ByteArray.size_mk', List.size_toArray, List.length_cons, List.length_nil]; omega, ⟨hlo3.h.alloc hlo3.h.size _⟩⟩
              case measure => simp [intOf]; omega
            · obtain rfl : j = exts.length := by omega
              go_wp2_with fail
              go_ret
              refine ⟨?_, by rw [HGW.eq]; exact hA.low.trans (hlo3.h.mono (Nat.le_of_lt hA.row.lt))⟩
              have hfin : s = txt := by
                rw [hX.eq, hs.eq, List.take_length]
                unfold textOf
                rw [ht2.eq, ht.eq, hH.eq, List.take_length]
              rw [← hfin]
              rfl
        · have hd0 : decide (0 < tt) = true := decide_eq_true (by omega)
          have hts2 := tcpStr_size tt
          obtain ⟨t2, ht2, hs2⟩ : ∃ t2, StrIs t2 (tcpAdd t tt) ∧ StrIs t2 (t ++ (⟨#[32, 116, 99, 112, 116, 121, 112, 101, 32]⟩ ++ tcpStr tt)) := ⟨_, ⟨rfl⟩, ⟨by simp [tcpAdd, htt0]⟩⟩
          have HT := fun W => tcpText tt (by omega) ht3 W
          generalize tcpStr tt = ts at *
          go_wp2_with fail
          refine (HT _).mono ?_
          rintro e wy ⟨rfl, hby⟩
          have hlo2 : LowAt w4 wy := ⟨hlo.h.trans (hby.mono hlo.h.size)⟩
          have c9y : wy.cell? ⟨g, 9, none⟩ = some (.slice A9 exts.length m9) := (hby.cell (p := ⟨g, 9, none⟩) hgr).trans c9
          have ht2s : t2.size ≤ 29000000000 := by
            rw [hs2.eq]
            simp only [Go.ByteArray.size_append', Go.ByteArray.size_mk', List.size_toArray, List.length_cons, List.length_nil]
            omega
          clear c2 c9 hxr hby
          go_wp2_with fail
          rw [← hs2.eq]
          have hEl : exts.length ≤ 9223372036854775807 := by omega
          go_wp2_with fail
          go_loopw [4, 75] (fun vt vi wr => ∃ (j : Nat) (s : ByteArray), vt = .string s ∧ vi = .int .i64 j ∧ j ≤ exts.length ∧ StrIs s ((exts.take j).foldl extAdd t2) ∧ s.size ≤ 30000000000 + j * 9000000000 ∧ LowAt w4 wr) (fun _ vi _ => exts.length - (intOf vi).toNat)
          case atStart => exact ⟨0, t2, rfl, rfl, Nat.zero_le _, ⟨rfl⟩, by omega, hlo2⟩
          case round =>
            obtain ⟨j, s, rfl, rfl, hj, hs, hss, hlo3⟩ := hrel
            rename World => W3
            by_cases hlt2 : j < exts.length
            · obtain ⟨ad2, hA9, s0, s1⟩ := at_T63 (Kd.C_below hA.h9 hlo3.h) j (by omega) (by omega)
              have ej : ((j : Int).toNat) = j := by omega
              rw [ej] at s0 s1
              have hmem2 : rd_T63 exts j ∈ exts := by
                unfold rd_T63
                rw [ej, List.getD_eq_getElem?_getD, List.getElem?_eq_getElem hlt2]
                exact List.getElem_mem hlt2
              obtain ⟨p0, p1⟩ := hxs _ hmem2
              have htake2 : StrIs (s ++ (⟨#[32]⟩ ++ (rd_T63 exts j).f0 ++ ⟨#[32]⟩ ++ (rd_T63 exts j).f1)) ((exts.take (j + 1)).foldl extAdd t2) := ⟨by
                rw [List.take_succ_eq_append_getElem hlt2, List.foldl_append, ← hs.eq]
                have : rd_T63 exts j = exts[j] := by
                  unfold rd_T63
                  rw [ej, List.getD_eq_getElem?_getD, List.getElem?_eq_getElem hlt2]
                  rfl
                rw [this]
                rfl⟩
              subst hA9
              generalize (rd_T63 exts j).f0 = key at *
              generalize (rd_T63 exts j).f1 = val at *
              have hw3l := World.block_lt_of_cell? _ _ s0
              go_wp2_with fail
              go_roundw
              case rel => exact ⟨j + 1, _, rfl, by go_num, by omega, htake2, by simp only [Go.ByteArray.size_append', Go.ByteArray.size_mk', List.size_toArray, List.length_cons, List.length_nil]; omega, ⟨hlo3.h.alloc hlo3.h.size _⟩⟩
              case measure => simp [intOf]; omega
            · obtain rfl : j = exts.length := by omega
              go_wp2_with fail
              go_ret
              refine ⟨?_, by rw [HGW.eq]; exact hA.low.trans (hlo3.h.mono (Nat.le_of_lt hA.row.lt))⟩
              have hfin : s = txt := by
                rw [hX.eq, hs.eq, List.take_length]
                unfold textOf
                rw [ht2.eq, ht.eq, hH.eq, List.take_length]
              rw [← hfin]
              rfl
  | false =>
    go_wp2_with fail
    rw [show (⟨#[117, 100, 112]⟩ : ByteArray) = tr from htt.out.symm]
    have ht3s := htr.out
    have k1 : ¬ 9223372036854775807 < found.size + 1 := by omega
    have k2 : ¬ 9223372036854775807 < found.size + 1 + tc.size := by omega
    have k3 : ¬ 9223372036854775807 < found.size + 1 + tc.size + 1 := by omega
    have k4 : ¬ 9223372036854775807 < found.size + 1 + tc.size + 1 + tr.size := by omega
    have k5 : ¬ 9223372036854775807 < found.size + 1 + tc.size + 1 + tr.size + 1 := by omega
    have k6 : ¬ 9223372036854775807 < found.size + 1 + tc.size + 1 + tr.size + 1 + tq.size := by omega
    have k7 : ¬ 9223372036854775807 < found.size + 1 + tc.size + 1 + tr.size + 1 + tq.size + 1 := by omega
    have k8 : ¬ 9223372036854775807 < found.size + 1 + tc.size + 1 + tr.size + 1 + tq.size + 1 + addr.size := by omega
    have k9 : ¬ 9223372036854775807 < found.size + 1 + tc.size + 1 + tr.size + 1 + tq.size + 1 + addr.size + 1 := by omega
    have k10 : ¬ 9223372036854775807 < found.size + 1 + tc.size + 1 + tr.size + 1 + tq.size + 1 + addr.size + 1 + tpo.size := by omega
    have k11 : ¬ 9223372036854775807 < found.size + 1 + tc.size + 1 + tr.size + 1 + tq.size + 1 + addr.size + 1 + tpo.size + 5 := by omega
    have k12 : ¬ 9223372036854775807 < found.size + 1 + tc.size + 1 + tr.size + 1 + tq.size + 1 + addr.size + 1 + tpo.size + 5 + tk.size := by omega
    clear ht3s
    go_region_held (fun w' => w'.cell? ⟨g, 0, none⟩ = some (.int .i64 (k : Int)) ∧ w'.cell? ⟨g, 3, none⟩ = some (.string found) ∧ w'.cell? ⟨g, 4, none⟩ = some (.int .i64 (comp : Int)) ∧ w'.cell? ⟨g, 5, none⟩ = some (.int .u32 (prio : Int)) ∧ w'.cell? ⟨g, 6, none⟩ = some (.string addr) ∧ w'.cell? ⟨g, 7, none⟩ = some (.int .i64 (port : Int)))
      (first
        | exact ⟨d0, d3, d4, d5, d6, d7⟩
        | exact ⟨(hb1.cell (by simpa using hl)).trans d0, (hb1.cell (by simpa using hl)).trans d3, (hb1.cell (by simpa using hl)).trans d4, (hb1.cell (by simpa using hl)).trans d5, (hb1.cell (by simpa using hl)).trans d6, (hb1.cell (by simpa using hl)).trans d7⟩
        | exact ⟨(hb2.cell (by simpa using hl)).trans d0, (hb2.cell (by simpa using hl)).trans d3, (hb2.cell (by simpa using hl)).trans d4, (hb2.cell (by simpa using hl)).trans d5, (hb2.cell (by simpa using hl)).trans d6, (hb2.cell (by simpa using hl)).trans d7⟩
        | exact ⟨(hb3.cell (by simpa using hl)).trans d0, (hb3.cell (by simpa using hl)).trans d3, (hb3.cell (by simpa using hl)).trans d4, (hb3.cell (by simpa using hl)).trans d5, (hb3.cell (by simpa using hl)).trans d6, (hb3.cell (by simpa using hl)).trans d7⟩
        | exact ⟨(hb4.cell (by simpa using hl)).trans d0, (hb4.cell (by simpa using hl)).trans d3, (hb4.cell (by simpa using hl)).trans d4, (hb4.cell (by simpa using hl)).trans d5, (hb4.cell (by simpa using hl)).trans d6, (hb4.cell (by simpa using hl)).trans d7⟩)
      (first
        | (go_at_call_of 43 (Value.int .u64 (comp : Int)); refine (HC _).mono ?_; rintro e w1 ⟨rfl, hb1⟩)
        | (go_at_call_of 43 (Value.int .u64 (prio : Int)); refine (HPr _).mono ?_; rintro e w2 ⟨rfl, hx2⟩; have hb2 := hb1.trans (hx2.mono hb1.size))
        | (go_at_call_of 43 (Value.int .u64 (port : Int)); refine (HPo _).mono ?_; rintro e w3 ⟨rfl, hx3⟩; have hb3 := hb2.trans (hx3.mono hb2.size))
        | (go_at_call 44; refine (HK _).mono ?_; rintro e w4 ⟨rfl, hx4⟩; have hb4 := hb3.trans (hx4.mono hb3.size)))
    have hb4' := hb4
    clear hb1 hb2 hb3 hx2 hx3 hx4 hb4
    have hBd : Below W.heap.size W w4 := (below_drewN (Below.refl W.heap.size W) 1).trans hb4'
    have hxR := HX.out.below hBd HX.out.lt
    have hBR := HB.out.trans (hBd.mono (Nat.le_of_lt hgl))
    have hC8 := Kd.C_below C8.out hBd
    have hC9 := Kd.C_below C9.out hBd
    rename_i hHeld
    rw [← hHd.eq]
    have hg4 := hxR.lt
    obtain ⟨A, hA⟩ : ∃ A, After w w4 g A8 A9 m8 m9 k net tt found comp prio addr port rels exts A := ⟨(), ⟨hxR, hBR, hC8, hC9⟩⟩
    have c8 : w4.cell? ⟨g, 8, none⟩ = some (.slice A8 rels.length m8) := hxR.cell 8
    clear hHeld hBd hb4' k1 k2 k3 k4 k5 k6 k7 k8 k9 k10 k11 k12 d0 d3 d4 d5 d6 d7 c1 C8 C9 HX HB htt htr HC HPr HPo HK sc sq so sk wc wq wo hHd hcut hxR hBR hC8 hC9
    go_wp2_with fail
    go_loopw [4, 47] (fun vt vi wr => ∃ (i : Nat) (t : ByteArray), vt = .string t ∧ vi = .int .i64 i ∧ i ≤ rels.length ∧ StrIs t ((rels.take i).foldl relAdd hd) ∧ t.size ≤ 9000000000 + i * 9000000000 ∧ LowAt w4 wr) (fun _ vi _ => rels.length - (intOf vi).toNat)
    case atStart => exact ⟨0, hd, rfl, rfl, Nat.zero_le _, ⟨rfl⟩, by omega, ⟨Below.refl _ _⟩⟩
    case round =>
      obtain ⟨i, t, rfl, rfl, hi, ht, hts, hlo⟩ := hrel
      by_cases hlt : i < rels.length
      · obtain rfl : i = 0 := by omega
        obtain ⟨ad, rfl, r0, r1⟩ := at_T60 (Kd.C_below hA.h8 hlo.h) 0 (by omega) (by omega)
        have e0 : ad.add ((0 : Int).toNat * 2) = ad := by simp [Addr.add]
        rw [e0] at r0 r1
        have hmem : rd_T60 rels 0 ∈ rels := by
          have hlt' : (0 : Int).toNat < rels.length := by simp; omega
          unfold rd_T60
          rw [List.getD_eq_getElem?_getD, List.getElem?_eq_getElem hlt']
          exact List.getElem_mem hlt'
        obtain ⟨q0, q1, q2⟩ := hrs _ hmem
        have htake : StrIs (relAdd t (rd_T60 rels 0)) ((rels.take 1).foldl relAdd hd) := ⟨by
          rw [ht.eq]
          have hlt' : (0 : Int).toNat < rels.length := by simp; omega
          have : rels.take 1 = [rd_T60 rels 0] := by
            unfold rd_T60
            cases rels with
            | nil => simp at hlt
            | cons a l => simp
          rw [this]
          rfl⟩
        obtain ⟨rp, hrp⟩ : ∃ n : Nat, (rd_T60 rels 0).f1 = (n : Int) := ⟨(rd_T60 rels 0).f1.toNat, by omega⟩
        have hrp2 : rp ≤ 65535 := by omega
        have htk : StrIs (t ++ (⟨#[32, 114, 97, 100, 100, 114, 32]⟩ ++ (rd_T60 rels 0).f0 ++ ⟨#[32, 114, 112, 111, 114, 116, 32]⟩ ++ decStr rp)) ((rels.take 1).foldl relAdd hd) := ⟨by
          rw [← htake.eq]
          unfold relAdd
          rw [hrp]
          rfl⟩
        rw [hrp] at r1
        have HR := fun W => decimal rp (by omega) W
        obtain ⟨-, sr⟩ := decStr_size rp (by omega)
        clear htake hmem hrp q1 q2 e0
        generalize (rd_T60 rels 0).f0 = ra at *
        generalize decStr rp = dr at *
        have wr16 : IntKind.u64.wrap (rp : Int) = (rp : Int) := by rw [IntKind.wrap_u64]; omega
        have hrl := World.block_lt_of_cell? _ _ r0
        have hz1 : LowAt w4 (wr.alloc (.cells #[.string ra, .int .i64 (rp : Int)] 60)).drew := ⟨below_drewN (below_al hlo.h (Nat.le_refl _) _) 1⟩
        have hq := Row.new wr 60 #[.string ra, .int .i64 (rp : Int)]
        have z0 : (wr.alloc (.cells #[.string ra, .int .i64 (rp : Int)] 60)).drew.cell? ⟨wr.heap.size, 0, none⟩ = some (.string ra) := hq.cell 0
        have z1 : (wr.alloc (.cells #[.string ra, .int .i64 (rp : Int)] 60)).drew.cell? ⟨wr.heap.size, 1, none⟩ = some (.int .i64 (rp : Int)) := hq.cell 1
        have zl : wr.heap.size < (wr.alloc (.cells #[.string ra, .int .i64 (rp : Int)] 60)).drew.heap.size := hq.lt
        clear hq
        have n1 : ¬ 9223372036854775807 < 7 + ra.size := by omega
        have n2 : ¬ 9223372036854775807 < 7 + ra.size + 7 := by omega
        have n3 : ¬ 9223372036854775807 < 7 + ra.size + 7 + dr.size := by omega
        have n4 : ¬ 9223372036854775807 < t.size + (7 + ra.size + 7 + dr.size) := by omega
        go_wp2_with fail
        generalize (wr.alloc (.cells #[.string ra, .int .i64 (rp : Int)] 60)) = V at *
        go_region_held (fun w' => w'.cell? ⟨wr.heap.size, 0, none⟩ = some (.string ra) ∧ w'.cell? ⟨wr.heap.size, 1, none⟩ = some (.int .i64 (rp : Int)))
          (first
            | exact ⟨z0, z1⟩
            | exact ⟨(hbr.cell (by simpa using zl)).trans z0, (hbr.cell (by simpa using zl)).trans z1⟩)
          (first | (go_at_call 43; refine (HR _).mono ?_; rintro e wz ⟨rfl, hbr⟩))
        rename_i hHeld2
        clear hHeld2 z0 z1 n1 n2 n3 n4
        have hz2 : LowAt w4 wz := ⟨hz1.h.trans (hbr.mono hz1.h.size)⟩
        go_wp2_with fail
        go_roundw
        case rel => exact ⟨1, _, rfl, by first | rfl | go_num, by omega, htk, by simp only [Go.ByteArray.size_append', Go.ByteArray.size_mk', List.size_toArray, List.length_cons, List.length_nil]; omega, hz2⟩
        case measure => simp [intOf]; omega
      · obtain rfl : i = rels.length := by omega
        have hxr := hA.row.below hlo.h hA.row.lt
        have c2 : wr.cell? ⟨g, 2, none⟩ = some (.int .i64 tt) := hxr.cell 2
        have c9 : wr.cell? ⟨g, 9, none⟩ = some (.slice A9 exts.length m9) := hxr.cell 9
        have hgr := hxr.lt
        by_cases htt0 : tt = 0
        · subst htt0
          obtain ⟨t2, ht2, hs2⟩ : ∃ t2, StrIs t2 (tcpAdd t 0) ∧ t2 = t := ⟨t, ⟨by simp [tcpAdd]⟩, rfl⟩
          subst hs2
          have hlo2 : LowAt w4 wr := hlo
          clear hxr
          have hEl : exts.length ≤ 9223372036854775807 := by omega
          go_wp2_with fail
          go_loopw [4, 75] (fun vt vi wr => ∃ (j : Nat) (s : ByteArray), vt = .string s ∧ vi = .int .i64 j ∧ j ≤ exts.length ∧ StrIs s ((exts.take j).foldl extAdd t2) ∧ s.size ≤ 30000000000 + j * 9000000000 ∧ LowAt w4 wr) (fun _ vi _ => exts.length - (intOf vi).toNat)
          case atStart => exact ⟨0, t2, rfl, rfl, Nat.zero_le _, ⟨rfl⟩, by omega, hlo2⟩
          case round =>
            obtain ⟨j, s, rfl, rfl, hj, hs, hss, hlo3⟩ := hrel
            rename World => W3
            by_cases hlt2 : j < exts.length
            · obtain ⟨ad2, hA9, s0, s1⟩ := at_T63 (Kd.C_below hA.h9 hlo3.h) j (by omega) (by omega)
              have ej : ((j : Int).toNat) = j := by omega
              rw [ej] at s0 s1
              have hmem2 : rd_T63 exts j ∈ exts := by
                unfold rd_T63
                rw [ej, List.getD_eq_getElem?_getD, List.getElem?_eq_getElem hlt2]
                exact List.getElem_mem hlt2
              obtain ⟨p0, p1⟩ := hxs _ hmem2
              have htake2 : StrIs (s ++ (⟨#[32]⟩ ++ (rd_T63 exts j).f0 ++ ⟨#[32]⟩ ++ (rd_T63 exts j).f1)) ((exts.take (j + 1)).foldl extAdd t2) := ⟨by
                rw [List.take_succ_eq_append_getElem hlt2, List.foldl_append, ← hs.eq]
                have : rd_T63 exts j = exts[j] := by
                  unfold rd_T63
                  rw [ej, List.getD_eq_getElem?_getD, List.getElem?_eq_getElem hlt2]
                  rfl
                rw [this]
                rfl⟩
              subst hA9
              generalize (rd_T63 exts j).f0 = key at *
              generalize (rd_T63 exts j).f1 = val at *
              have hw3l := World.block_lt_of_cell? _ _ s0
              go_wp2_with fail
              go_roundw
              case rel => exact ⟨j + 1, _, rfl, by go_num, by omega, htake2, by simp only [Go.ByteArray.size_append', Go.ByteArray.size_mk', List.size_toArray, List.length_cons, List.length_nil]; omega, ⟨hlo3.h.alloc hlo3.h.size _⟩⟩
              case measure => simp [intOf]; omega
            · obtain rfl : j = exts.length := by omega
              go_wp2_with fail
              go_ret
              refine ⟨?_, by rw [HGW.eq]; exact hA.low.trans (hlo3.h.mono (Nat.le_of_lt hA.row.lt))⟩
              have hfin : s = txt := by
                rw [hX.eq, hs.eq, List.take_length]
                unfold textOf
                rw [ht2.eq, ht.eq, hH.eq, List.take_length]
              rw [← hfin]
              rfl
        · have hd0 : decide (0 < tt) = true := decide_eq_true (by omega)
          have hts2 := tcpStr_size tt
          obtain ⟨t2, ht2, hs2⟩ : ∃ t2, StrIs t2 (tcpAdd t tt) ∧ StrIs t2 (t ++ (⟨#[32, 116, 99, 112, 116, 121, 112, 101, 32]⟩ ++ tcpStr tt)) := ⟨_, ⟨rfl⟩, ⟨by simp [tcpAdd, htt0]⟩⟩
          have HT := fun W => tcpText tt (by omega) ht3 W
          generalize tcpStr tt = ts at *
          go_wp2_with fail
          refine (HT _).mono ?_
          rintro e wy ⟨rfl, hby⟩
          have hlo2 : LowAt w4 wy := ⟨hlo.h.trans (hby.mono hlo.h.size)⟩
          have c9y : wy.cell? ⟨g, 9, none⟩ = some (.slice A9 exts.length m9) := (hby.cell (p := ⟨g, 9, none⟩) hgr).trans c9
          have ht2s : t2.size ≤ 29000000000 := by
            rw [hs2.eq]
            simp only [Go.ByteArray.size_append', Go.ByteArray.size_mk', List.size_toArray, List.length_cons, List.length_nil]
            omega
          clear c2 c9 hxr hby
          go_wp2_with fail
          rw [← hs2.eq]
          have hEl : exts.length ≤ 9223372036854775807 := by omega
          go_wp2_with fail
          go_loopw [4, 75] (fun vt vi wr => ∃ (j : Nat) (s : ByteArray), vt = .string s ∧ vi = .int .i64 j ∧ j ≤ exts.length ∧ StrIs s ((exts.take j).foldl extAdd t2) ∧ s.size ≤ 30000000000 + j * 9000000000 ∧ LowAt w4 wr) (fun _ vi _ => exts.length - (intOf vi).toNat)
          case atStart => exact ⟨0, t2, rfl, rfl, Nat.zero_le _, ⟨rfl⟩, by omega, hlo2⟩
          case round =>
            obtain ⟨j, s, rfl, rfl, hj, hs, hss, hlo3⟩ := hrel
            rename World => W3
            by_cases hlt2 : j < exts.length
            · obtain ⟨ad2, hA9, s0, s1⟩ := at_T63 (Kd.C_below hA.h9 hlo3.h) j (by omega) (by omega)
              have ej : ((j : Int).toNat) = j := by omega
              rw [ej] at s0 s1
              have hmem2 : rd_T63 exts j ∈ exts := by
                unfold rd_T63
                rw [ej, List.getD_eq_getElem?_getD, List.getElem?_eq_getElem hlt2]
                exact List.getElem_mem hlt2
              obtain ⟨p0, p1⟩ := hxs _ hmem2
              have htake2 : StrIs (s ++ (⟨#[32]⟩ ++ (rd_T63 exts j).f0 ++ ⟨#[32]⟩ ++ (rd_T63 exts j).f1)) ((exts.take (j + 1)).foldl extAdd t2) := ⟨by
                rw [List.take_succ_eq_append_getElem hlt2, List.foldl_append, ← hs.eq]
                have : rd_T63 exts j = exts[j] := by
                  unfold rd_T63
                  rw [ej, List.getD_eq_getElem?_getD, List.getElem?_eq_getElem hlt2]
                  rfl
                rw [this]
                rfl⟩
              subst hA9
              generalize (rd_T63 exts j).f0 = key at *
              generalize (rd_T63 exts j).f1 = val at *
              have hw3l := World.block_lt_of_cell? _ _ s0
              go_wp2_with fail
              go_roundw
              case rel => exact ⟨j + 1, _, rfl, by go_num, by omega, htake2, by simp only [Go.ByteArray.size_append', Go.ByteArray.size_mk', List.size_toArray, List.length_cons, List.length_nil]; omega, ⟨hlo3.h.alloc hlo3.h.size _⟩⟩
              case measure => simp [intOf]; omega
            · obtain rfl : j = exts.length := by omega
              go_wp2_with fail
              go_ret
              refine ⟨?_, by rw [HGW.eq]; exact hA.low.trans (hlo3.h.mono (Nat.le_of_lt hA.row.lt))⟩
              have hfin : s = txt := by
                rw [hX.eq, hs.eq, List.take_length]
                unfold textOf
                rw [ht2.eq, ht.eq, hH.eq, List.take_length]
              rw [← hfin]
              rfl
end Go.Proofs.YtmfdbcfpcifmcaaGreatDoor
