/- package crc32: the tables and the sum, as functions of the bytes alone. -/
import Derived.Test.YtmfdbcfpcifmcaaGreatDoorMa
import Derived.Sort.Row
import Derived.Lib.Itoa
import Derived.Lib.Walk
import Derived.RegionTactic
import Derived.BigCall
import Derived.BigGuard
import Derived.CellFam
import Derived.Laws.BitsLemmas
import Derived.Deep.QuietTactic
import Derived.BigQuiet
namespace Go.Proofs.YtmfdbcfpcifmcaaGreatDoor
open Go.RowKit Go.Sort

abbrev E32 : Int → Value := Value.int .u32

namespace Crc
theorem u32_range (op : BinOp) (x y : Int) : 0 ≤ bits op .u32 x y ∧ bits op .u32 x y < 4294967296 := by
  unfold bits
  cases op <;> simp only [IntKind.wrap_u32] <;> omega
theorem u8_range (op : BinOp) (x y : Int) : 0 ≤ bits op .u8 x y ∧ bits op .u8 x y < 256 := by
  unfold bits
  cases op <;> simp only [IntKind.wrap_u8] <;> omega
theorem low_byte (c : Int) (h0 : 0 ≤ c) (h1 : c < 4294967296) : bits .and .u32 c 255 = c % 256 :=
  bits_mask .u32 32 (by decide) (fun n a b => by rw [IntKind.wrap_u32]; omega) 8 (by decide) c h0 (by omega)

def step (c : Int) : Int := if bits .and .u32 c 1 = 1 then bits .xor .u32 (c / 2) 3988292384 else c / 2
def iter : Nat → Int → Int
  | 0, c => c
  | j + 1, c => step (iter j c)
theorem iter_range (j : Nat) (c : Int) (h0 : 0 ≤ c) (h1 : c < 4294967296) : 0 ≤ iter j c ∧ iter j c < 4294967296 := by
  induction j with
  | zero => exact ⟨h0, h1⟩
  | succ j ih =>
    show 0 ≤ step (iter j c) ∧ step (iter j c) < 4294967296
    unfold step
    split
    · exact u32_range _ _ _
    · omega
def pop : Nat → Array Int → Array Int
  | 0, d => d
  | i + 1, d => (pop i d).setIfInBounds i (iter 8 i)
theorem pop_size (i : Nat) (d : Array Int) : (pop i d).size = d.size := by
  induction i with
  | zero => rfl
  | succ i ih => simp [pop, ih]
end Crc

set_option maxRecDepth 100000 in
set_option maxHeartbeats 1000000 in
theorem simplePop (blk : Nat) (d : Array Int) (w : World) (hd : 256 ≤ d.size) (hH : Holds E32 w blk 0 d) :
    Calls Tryz.prog 193 #[.int .u32 3988292384, .pointer (some ⟨blk, 0, none⟩)] w fun e w' => e = .returned (.tuple #[]) ∧ w' = putRow E32 w blk 0 (Crc.pop 256 d) := by
  go_enter Tryz.func193, Tryz.ntmps193
  go_wp2
  go_loopw [4] (fun vi wr => ∃ i : Nat, vi = .int .i64 i ∧ i ≤ 256 ∧ wr = putRow E32 w blk 0 (Crc.pop i d)) (fun vi _ => 256 - (intOf vi).toNat)
  case atStart => exact ⟨0, rfl, by omega, (putRow_self _ _ _ _ _ hH).symm⟩
  case round =>
    obtain ⟨i, rfl, hi, hw⟩ := hrel
    rename World => W0
    by_cases hlt : i < 256
    · have hsz := Crc.pop_size i d
      have hH0 : Holds E32 W0 blk 0 (Crc.pop i d) := by rw [hw]; exact holds_putRow _ w blk 0 d _ hH hsz
      have hci : W0.cell? ⟨blk, i, none⟩ = some (.int .u32 ((Crc.pop i d)[i]!)) := by have := (hH0 i (by omega)).1; simpa using this
      have hfi : W0.frozen? ⟨blk, i, none⟩ = false := by have := (hH0 i (by omega)).2; simpa using this
      generalize (Crc.pop i d)[i]! = old at hci
      have HW := Lib.hid hw
      have HH := Lib.hid hH
      have HS := Lib.hid hsz
      clear hw hH hH0 hsz
      go_wp2
      go_loopw [5, 6] (fun vc vj wr => ∃ j : Nat, vc = .int .u32 (Crc.iter j i) ∧ vj = .int .i64 j ∧ j ≤ 8 ∧ wr = W0) (fun _ vj _ => 8 - (intOf vj).toNat)
      case atStart => exact ⟨0, by first | rfl | (simp [Crc.iter]), rfl, by omega, rfl⟩
      case round =>
        obtain ⟨j, rfl, rfl, hj, rfl⟩ := hrel
        obtain ⟨hc0, hc1⟩ := Crc.iter_range j i (by omega) (by omega)
        have hst : Crc.iter (j + 1) i = Crc.step (Crc.iter j i) := rfl
        have HST := Lib.hid hst
        clear hst
        by_cases hj8 : j < 8
        · generalize hc : Crc.iter j (i : Int) = c at *
          go_wp2
          · go_roundw
            case rel => exact ⟨j + 1, by rw [HST.out]; unfold Crc.step; rw [if_pos (by simpa using ‹(bits BinOp.and IntKind.u32 c 1 == 1) = true›)], by go_num, by omega, by first | rfl | trivial⟩
            case measure => simp [intOf]; omega
          · have hne : (bits BinOp.and IntKind.u32 c 1 == 1) = false := by assumption
            have hne' : ¬ bits BinOp.and IntKind.u32 c 1 = 1 := by simpa using hne
            go_roundw
            case rel => exact ⟨j + 1, by rw [HST.out]; unfold Crc.step; rw [if_neg hne'], by go_num, by omega, by first | rfl | trivial⟩
            case measure => simp [intOf]; omega
        · obtain rfl : j = 8 := by omega
          go_wp2
          go_roundw
          case rel => exact ⟨i + 1, by go_num, by omega, by
            have e := putRow_set E32 w blk 0 (Crc.pop i d) i (Crc.iter 8 i) (by have := HS.out; omega)
            rw [Nat.zero_add] at e
            rw [HW.out]
            exact e⟩
          case measure => simp [intOf]; omega
    · obtain rfl : i = 256 := by omega
      go_wp2
      go_end0
      exact ⟨rfl, by first | rfl | exact hw⟩
end Go.Proofs.YtmfdbcfpcifmcaaGreatDoor

namespace Go.Proofs.YtmfdbcfpcifmcaaGreatDoor
open Go.RowKit Go.Sort

namespace Crc
/-- All its numbers are of 32 bits. -/
def R (d : Array Int) : Prop := ∀ k : Nat, 0 ≤ d[k]! ∧ d[k]! < 4294967296
theorem R.set {d : Array Int} (h : R d) (i : Nat) {x : Int} (h0 : 0 ≤ x) (h1 : x < 4294967296) : R (d.setIfInBounds i x) := by
  intro k
  by_cases hk : k < d.size
  · rw [getElem!_pos _ k (by simpa using hk), Array.getElem_setIfInBounds]
    split
    · exact ⟨h0, h1⟩
    · have := h k
      rwa [getElem!_pos d k hk] at this
  · rw [getElem!_neg _ k (by simpa using hk)]
    decide
theorem pop_R (i : Nat) (hi : i ≤ 256) {d : Array Int} (h : R d) : R (pop i d) := by
  induction i with
  | zero => exact h
  | succ i ih =>
    obtain ⟨a, b⟩ := iter_range 8 i (by omega) (by omega)
    exact (ih (by omega)).set i a b
def zero : Array Int := Array.replicate 2048 0
theorem zero_R : R zero := by
  intro k
  by_cases hk : k < zero.size
  · rw [getElem!_pos _ k hk]
    simp [zero]
  · rw [getElem!_neg _ k hk]
    decide

def nx (d : Array Int) (c : Int) : Int := bits .xor .u32 (d[(c % 256).toNat]!) (c / 256)
def inn (d : Array Int) (i : Nat) : Nat → Int × Array Int
  | 0 => (d[i]!, d)
  | n + 1 => (nx (inn d i n).2 (inn d i n).1, (inn d i n).2.setIfInBounds ((n + 1) * 256 + i) (nx (inn d i n).2 (inn d i n).1))
theorem inn_size (d : Array Int) (i n : Nat) : (inn d i n).2.size = d.size := by
  induction n with
  | zero => rfl
  | succ n ih => simp [inn, ih]
theorem inn_R {d : Array Int} (h : R d) (i n : Nat) : R (inn d i n).2 ∧ 0 ≤ (inn d i n).1 ∧ (inn d i n).1 < 4294967296 := by
  induction n with
  | zero => exact ⟨h, h i⟩
  | succ n ih =>
    have hu := u32_range .xor ((inn d i n).2[((inn d i n).1 % 256).toNat]!) ((inn d i n).1 / 256)
    exact ⟨ih.1.set _ hu.1 hu.2, hu⟩
def sl : Nat → Array Int → Array Int
  | 0, d => d
  | i + 1, d => (inn (sl i d) i 7).2
theorem sl_size (i : Nat) (d : Array Int) : (sl i d).size = d.size := by
  induction i with
  | zero => rfl
  | succ i ih => simp [sl, inn_size, ih]
theorem sl_R {d : Array Int} (h : R d) (i : Nat) : R (sl i d) := by
  induction i with
  | zero => exact h
  | succ i ih => exact (inn_R ih i 7).1
/-- The eight tables, one behind the other. -/
def tabs : Array Int := sl 256 (pop 256 zero)
theorem tabs_size : tabs.size = 2048 := by simp [tabs, sl_size, pop_size, zero]
theorem tabs_R : R tabs := sl_R (pop_R 256 (Nat.le_refl _) zero_R) 256
end Crc

theorem z272 : Tryz.zeroCells272 = Array.replicate 2048 (.int .u32 0) := by kernel_rfl

theorem below_put {a w : World} {B : Nat} (h : Below B a w) (blk off : Nat) (d : Array Int) (hB : B ≤ blk) : Below B a (putRow E32 w blk off d) := by
  refine ⟨h.os, h.tape, h.output, Nat.le_trans h.size (Nat.le_of_eq (size_putRow _ _ _ _ _).symm), fun k hk => ?_⟩
  have e : (putRow E32 w blk off d).heap[k]? = w.heap[k]? := by
    unfold putRow mapBlock
    simp only [Array.getElem?_modify]
    rw [if_neg (by omega)]
  rw [e]
  exact h.block k hk

/-- What stands while the tables are made. -/
structure OuterS (w W : World) (g : Nat) (d1 : Array Int) (N : Nat) : Prop where
  gw : w.heap.size = g
  hH : Holds E32 W g 0 Crc.zero
  hB : Below w.heap.size w W
  hd1 : d1.size = 2048
  hR1 : Crc.R d1
  htb : Crc.tabs = Crc.sl N d1
  hN : N = 256
structure RowIs (W1 W : World) (g : Nat) (d : Array Int) : Prop where
  eq : W1 = putRow E32 W g 0 d
structure InnS (di : Array Int) (i : Nat) (d1 : Array Int) : Prop where
  size : di.size = 2048
  R : Crc.R di
  next : Crc.sl (i + 1) d1 = (Crc.inn di i 7).2
  eq : Crc.sl i d1 = di
structure CIs (c x : Int) : Prop where
  eq : c = x
structure NxS (di dn : Array Int) (i n : Nat) (c y : Int) : Prop where
  size : dn.size = 2048
  e1 : (Crc.inn di i (n + 1)).1 = bits .xor .u32 y (c / 256)
  e2 : (Crc.inn di i (n + 1)).2 = dn.setIfInBounds ((n + 1) * 256 + i) (bits .xor .u32 y (c / 256))

theorem OuterS.holds {w W W1 : World} {g : Nat} {d1 d : Array Int} {N : Nat} (h : OuterS w W g d1 N) (hr : RowIs W1 W g d) (hs : d.size = 2048) : Holds E32 W1 g 0 d := by
  rw [hr.eq]
  exact holds_putRow _ W g 0 _ d h.hH (by rw [hs]; simp [Crc.zero])
theorem holds_at {W : World} {g : Nat} {d : Array Int} (h : Holds E32 W g 0 d) (i : Nat) (hi : i < d.size) : W.cell? ⟨g, i, none⟩ = some (.int .u32 (d[i]!)) ∧ W.frozen? ⟨g, i, none⟩ = false := by
  have := h i hi
  simpa using this
theorem inn_next {di dn : Array Int} {i n m : Nat} {c : Int} (hs : dn.size = 2048) (h1 : c = (Crc.inn di i n).1) (h2 : (Crc.inn di i n).2 = dn) (hm : c % 256 = (m : Int)) : NxS di dn i n c (dn[m]!) := by
  have e : Crc.nx (Crc.inn di i n).2 (Crc.inn di i n).1 = bits .xor .u32 (dn[m]!) (c / 256) := by
    rw [← h1, h2]
    unfold Crc.nx
    rw [show (c % 256).toNat = m by omega]
  refine ⟨hs, e, ?_⟩
  show (Crc.inn di i n).2.setIfInBounds _ (Crc.nx (Crc.inn di i n).2 (Crc.inn di i n).1) = _
  rw [e, h2]
theorem RowIs.set {W1 W : World} {g : Nat} {dn d' : Array Int} {k : Nat} {x : Int} (h : RowIs W1 W g dn) (hk : k < dn.size) (e : d' = dn.setIfInBounds k x) : RowIs (W1.setCell ⟨g, k, none⟩ (.int .u32 x)) W g d' := by
  have h2 := putRow_set E32 W g 0 dn k x hk
  rw [Nat.zero_add] at h2
  exact ⟨by rw [h.eq, e]; exact h2⟩

set_option maxRecDepth 100000 in
set_option maxHeartbeats 800000 in
theorem slicing (w : World) :
    Calls Tryz.prog 184 #[.int .u32 3988292384] w fun e w' => ∃ g : Nat, e = .returned (.pointer (some ⟨g, 0, none⟩)) ∧ w.heap.size ≤ g ∧ Holds E32 w' g 0 Crc.tabs ∧ Below w.heap.size w w' := by
  have hH : Holds E32 (w.alloc (.cells Tryz.zeroCells272 272)) w.heap.size 0 Crc.zero := fun j hj => by
    have hj' : j < 2048 := by simpa [Crc.zero] using hj
    refine ⟨?_, World.frozen?_alloc_new _ _ _ _⟩
    rw [World.cell?_alloc_new, z272, Nat.zero_add, Array.getElem?_replicate, if_pos hj', getElem!_pos _ j hj]
    simp [Crc.zero]
  have hb := below_al (Below.refl w.heap.size w) (Nat.le_refl _) (.cells Tryz.zeroCells272 272)
  have hz : Crc.zero.size = 2048 := by simp [Crc.zero]
  go_enter Tryz.func184, Tryz.ntmps184
  go_wp2_with fail
  generalize w.alloc (.cells Tryz.zeroCells272 272) = W at *
  refine (simplePop w.heap.size Crc.zero W (by omega) hH).mono ?_
  rintro e W1 ⟨rfl, hw1⟩
  obtain ⟨d1, N, g, hO, hw⟩ : ∃ (d1 : Array Int) (N g : Nat), OuterS w W g d1 N ∧ RowIs W1 W g d1 :=
    ⟨_, 256, _, ⟨rfl, hH, hb, (Crc.pop_size 256 Crc.zero).trans hz, Crc.pop_R 256 (Nat.le_refl _) Crc.zero_R, rfl, rfl⟩, ⟨hw1⟩⟩
  rw [hO.gw]
  clear hw1 hH hb hz
  go_wp2_with fail
  go_loopw [4] (fun vi wr => ∃ i : Nat, vi = .int .i64 i ∧ i ≤ 256 ∧ RowIs wr W g (Crc.sl i d1)) (fun vi _ => 256 - (intOf vi).toNat)
  case atStart => exact ⟨0, rfl, by omega, hw⟩
  case round =>
    clear hw
    obtain ⟨i, rfl, hi, hw⟩ := hrel
    rename World => W2
    by_cases hlt : i < 256
    · obtain ⟨di, hI, hw⟩ : ∃ di, InnS di i d1 ∧ RowIs W2 W g di := ⟨_, ⟨(Crc.sl_size i d1).trans hO.hd1, Crc.sl_R hO.hR1 i, rfl, rfl⟩, hw⟩
      obtain ⟨hci, -⟩ := holds_at (hO.holds hw hI.size) i (by rw [hI.size]; omega)
      obtain ⟨x0, hx0⟩ : ∃ x0, CIs x0 (di[i]!) := ⟨_, ⟨rfl⟩⟩
      rw [← hx0.eq] at hci
      rename_i hwOld
      clear hwOld
      go_wp2_with fail
      go_loopw [5, 6] (fun vc vj wr => ∃ n : Nat, ∃ c : Int, vc = .int .u32 c ∧ vj = .int .i64 ((n + 1 : Nat) : Int) ∧ n ≤ 7 ∧ CIs c (Crc.inn di i n).1 ∧ RowIs wr W g (Crc.inn di i n).2) (fun _ vj _ => 9 - (intOf vj).toNat)
      case atStart => exact ⟨0, x0, rfl, by first | rfl | simp, by omega, hx0, hw⟩
      case round =>
        clear hci hx0 hw
        obtain ⟨n, c, rfl, rfl, hn, hc, hw⟩ := hrel
        rename World => W3
        by_cases hn7 : n < 7
        · obtain ⟨hc0, hc1⟩ : 0 ≤ c ∧ c < 4294967296 := by rw [hc.eq]; exact (Crc.inn_R hI.R i n).2
          obtain ⟨m, hm⟩ : ∃ m : Nat, CIs (c % 256) (m : Int) := ⟨(c % 256).toNat, ⟨by omega⟩⟩
          have hm2 : m < 256 := by have := hm.eq; omega
          have hlow : bits .and .u32 c 255 = (m : Int) := (Crc.low_byte c hc0 hc1).trans hm.eq
          obtain ⟨dn, y, hN, hw, hd⟩ : ∃ dn y, NxS di dn i n c y ∧ RowIs W3 W g dn ∧ CIs y (dn[m]!) := ⟨_, _, inn_next ((Crc.inn_size di i n).trans hI.size) hc.eq rfl hm.eq, hw, ⟨rfl⟩⟩
          rename_i hwOld
          clear hwOld
          obtain ⟨hcm, -⟩ := holds_at (hO.holds hw hN.size) m (by rw [hN.size]; omega)
          rw [← hd.eq] at hcm
          obtain ⟨hcs, hfs⟩ := holds_at (hO.holds hw hN.size) ((n + 1) * 256 + i) (by rw [hN.size]; omega)
          generalize dn[(n + 1) * 256 + i]! = old at hcs
          clear hd hm
          go_wp2_with fail
          go_roundw
          case rel => exact ⟨n + 1, _, rfl, by go_num, by omega, ⟨hN.e1.symm⟩, hw.set (by rw [hN.size]; omega) hN.e2⟩
          case measure => simp [intOf]; omega
        · obtain rfl : n = 7 := by omega
          go_wp2_with fail
          go_roundw
          case rel => exact ⟨i + 1, by go_num, by omega, ⟨by rw [hw.eq, hI.next]⟩⟩
          case measure => simp [intOf]; omega
    · obtain rfl : i = 256 := by omega
      go_wp2_with fail
      go_ret
      have hN := hO.hN
      subst hN
      exact ⟨g, rfl, Nat.le_of_eq hO.gw, by rw [hO.htb]; exact hO.holds hw ((Crc.sl_size _ d1).trans hO.hd1), by rw [hw.eq]; exact below_put hO.hB _ _ _ (Nat.le_of_eq hO.gw)⟩
end Go.Proofs.YtmfdbcfpcifmcaaGreatDoor

namespace Go.Proofs.YtmfdbcfpcifmcaaGreatDoor
open Go.RowKit Go.Sort

def lenOf : Value → Nat
  | .slice _ n _ => n
  | _ => 0
/-- The bytes B lie at block pb from place po on. -/
structure BytesAt (w : World) (pb po n : Nat) (B : Nat → Nat) : Prop where
  cell : ∀ k, k < n → w.cell? ⟨pb, po + k, none⟩ = some (.int .u8 ((B k : Nat) : Int))
  range : ∀ k, B k < 256
structure TabsAt (w : World) (g : Nat) : Prop where
  h : Holds E32 w g 0 Crc.tabs
theorem TabsAt.at {w : World} {g : Nat} (h : TabsAt w g) (i : Nat) (hi : i < 2048) : w.cell? ⟨g, i, none⟩ = some (.int .u32 (Crc.tabs[i]!)) := (holds_at h.h i (by rw [Crc.tabs_size]; exact hi)).1

namespace Crc
def inv (c : Int) : Int := bits .xor .u32 IntKind.u32.max c
theorem inv_range (c : Int) : 0 ≤ inv c ∧ inv c < 4294967296 := u32_range _ _ _
/-- One byte. -/
def one (c : Int) (b : Nat) : Int := bits .xor .u32 (tabs[(bits .xor .u8 (c % 256) (b : Int)).toNat]!) (c / 256)
def su (B : Nat → Nat) (c : Int) : Nat → Int
  | 0 => c
  | k + 1 => one (su B c k) (B k)
theorem su_succ (B : Nat → Nat) (c : Int) (k : Nat) : su B c (k + 1) = one (su B c k) (B k) := rfl
theorem su_range (B : Nat → Nat) {c : Int} (h0 : 0 ≤ c) (h1 : c < 4294967296) (k : Nat) : 0 ≤ su B c k ∧ su B c k < 4294967296 := by
  cases k with
  | zero => exact ⟨h0, h1⟩
  | succ k =>
    rw [su_succ]
    exact u32_range _ _ _
def le4 (x0 x1 x2 x3 : Nat) : Int := bits .or .u32 (bits .or .u32 (bits .or .u32 (x0 : Int) ((x1 : Int) * 256)) ((x2 : Int) * 65536)) ((x3 : Int) * 16777216)
structure Su (B : Nat → Nat) (c0 : Int) (k : Nat) (c : Int) : Prop where
  eq : c = su B c0 k
end Crc

set_option maxRecDepth 100000 in
set_option maxHeartbeats 400000 in
theorem simpleUpd (g pb po n cap : Nat) (B : Nat → Nat) (c : Int) (w : World) (hT : TabsAt w g) (hB : BytesAt w pb po n B) (hn : n < 4611686018427387904) :
    Calls Tryz.prog 192 #[.int .u32 c, .pointer (some ⟨g, 0, none⟩), .slice (some ⟨pb, po, none⟩) n cap] w fun e w' => e = .returned (.int .u32 (Crc.inv (Crc.su B (Crc.inv c) n))) ∧ w' = w := by
  go_enter Tryz.func192, Tryz.ntmps192
  go_wp2_with fail
  go_loopw [0, 13] (fun vc vi wr => ∃ (k : Nat) (x : Int), vc = .int .u32 x ∧ vi = .int .i64 k ∧ k ≤ n ∧ Crc.Su B (Crc.inv c) k x ∧ wr = w) (fun _ vi _ => n - (intOf vi).toNat)
  case atStart => exact ⟨0, _, rfl, rfl, Nat.zero_le _, ⟨rfl⟩, rfl⟩
  case round =>
    obtain ⟨k, x, rfl, rfl, hk, hx, rfl⟩ := hrel
    obtain ⟨hx0, hx1⟩ : 0 ≤ x ∧ x < 4294967296 := by rw [hx.eq]; exact Crc.su_range B (Crc.inv_range c).1 (Crc.inv_range c).2 k
    by_cases hlt : k < n
    · have hb := hB.cell k hlt
      have hb2 := hB.range k
      obtain ⟨m, hm⟩ : ∃ m : Nat, bits .xor .u8 (x % 256) ((B k : Nat) : Int) = (m : Int) := ⟨(bits .xor .u8 (x % 256) ((B k : Nat) : Int)).toNat, by have := Crc.u8_range .xor (x % 256) ((B k : Nat) : Int); omega⟩
      have hm2 : m < 256 := by have := Crc.u8_range .xor (x % 256) ((B k : Nat) : Int); omega
      have hc := hT.at m (by omega)
      have hnx : Crc.Su B (Crc.inv c) (k + 1) (bits .xor .u32 (Crc.tabs[m]!) (x / 256)) := ⟨by
        show _ = Crc.one (Crc.su B (Crc.inv c) k) (B k)
        unfold Crc.one
        rw [← hx.eq, hm]
        rfl⟩
      generalize Crc.tabs[m]! = y at hc hnx
      generalize B k = bk at hb hb2 hm
      go_wp2_with fail
      go_roundw
      case rel => exact ⟨k + 1, _, rfl, by go_num, by omega, hnx, by first | rfl | trivial⟩
      case measure => simp [intOf]; omega
    · obtain rfl : k = n := by omega
      go_wp2_with fail
      go_ret
      exact ⟨by rw [← hx.eq]; rfl, rfl⟩

set_option maxRecDepth 100000 in
set_option maxHeartbeats 400000 in
theorem leU (pb po n cap : Nat) (B : Nat → Nat) (w : World) (hB : BytesAt w pb po n B) (hn : 8 < n) (hn2 : n < 4611686018427387904) :
    Calls Tryz.prog 191 #[.slice (some ⟨pb, po, none⟩) n cap] w fun e w' => e = .returned (.int .u32 (Crc.le4 (B 0) (B 1) (B 2) (B 3))) ∧ ∃ q, w' = w.drewN q := by
  have b0 := hB.cell 0 (by omega)
  have b1 := hB.cell 1 (by omega)
  have b2 := hB.cell 2 (by omega)
  have b3 := hB.cell 3 (by omega)
  have r0 := hB.range 0
  have r1 := hB.range 1
  have r2 := hB.range 2
  have r3 := hB.range 3
  have hi : (3 : Int) < (n : Int) := by omega
  have hi0 : (0 : Int) < (n : Int) := by omega
  have hi1 : (1 : Int) < (n : Int) := by omega
  have hi2 : (2 : Int) < (n : Int) := by omega
  generalize B 0 = x0 at b0 r0
  generalize B 1 = x1 at b1 r1
  generalize B 2 = x2 at b2 r2
  generalize B 3 = x3 at b3 r3
  rw [Nat.add_zero] at b0
  go_enter Tryz.func191, Tryz.ntmps191
  go_wp2_with fail
  go_quiet (fail)
  go_wp2_with fail
  go_ret
  exact ⟨rfl, nq, rfl⟩

theorem BytesAt.drewN {w : World} {pb po n : Nat} {B : Nat → Nat} (h : BytesAt w pb po n B) (q : Nat) : BytesAt (w.drewN q) pb po n B := ⟨fun k hk => by rw [World.cell?_drewN]; exact h.cell k hk, h.range⟩
theorem TabsAt.drewN {w : World} {g : Nat} (h : TabsAt w g) (q : Nat) : TabsAt (w.drewN q) g := ⟨fun j hj => by rw [World.cell?_drewN, World.frozen?_drewN]; exact h.h j hj⟩
theorem BytesAt.drop {w : World} {pb po n : Nat} {B : Nat → Nat} (h : BytesAt w pb po n B) (d : Nat) (_hd : d ≤ n) : BytesAt w pb (po + d) (n - d) (fun j => B (d + j)) :=
  ⟨fun k hk => by have := h.cell (d + k) (by omega); rwa [show po + (d + k) = po + d + k by omega] at this, fun k => h.range _⟩

namespace Crc
/-- What eight bytes make of the sum; c is the sum with the first four of them. -/
def mix (c : Int) (b4 b5 b6 b7 : Nat) : Int :=
  bits .xor .u32 (bits .xor .u32 (bits .xor .u32 (bits .xor .u32 (bits .xor .u32 (bits .xor .u32 (bits .xor .u32 (tabs[b7]!) (tabs[256 + b6]!)) (tabs[512 + b5]!)) (tabs[768 + b4]!)) (tabs[1024 + (c / 16777216).toNat]!))
    (tabs[1280 + (c / 65536 % 256).toNat]!)) (tabs[1536 + (c / 256 % 256).toNat]!)) (tabs[1792 + (c % 256).toNat]!)
def eight (x : Int) (B : Nat → Nat) : Int := mix (bits .xor .u32 x (le4 (B 0) (B 1) (B 2) (B 3))) (B 4) (B 5) (B 6) (B 7)
def se (B : Nat → Nat) (c : Int) : Nat → Int
  | 0 => c
  | k + 1 => eight (se B c k) (fun j => B (8 * k + j))
theorem se_succ (B : Nat → Nat) (c : Int) (k : Nat) : se B c (k + 1) = eight (se B c k) (fun j => B (8 * k + j)) := rfl
theorem mix_range (c : Int) (b4 b5 b6 b7 : Nat) : 0 ≤ mix c b4 b5 b6 b7 ∧ mix c b4 b5 b6 b7 < 4294967296 := u32_range _ _ _
theorem se_range (B : Nat → Nat) {c : Int} (h0 : 0 ≤ c) (h1 : c < 4294967296) (k : Nat) : 0 ≤ se B c k ∧ se B c k < 4294967296 := by
  cases k with
  | zero => exact ⟨h0, h1⟩
  | succ k =>
    rw [se_succ]
    exact mix_range _ _ _ _ _
/-- The sum of n bytes. -/
def sum (B : Nat → Nat) (n : Nat) (c : Int) : Int :=
  if n < 16 then inv (su B (inv c) n)
  else inv (su (fun j => B (8 * ((n - 1) / 8) + j)) (inv (inv (se B (inv c) ((n - 1) / 8)))) (n - 8 * ((n - 1) / 8)))
structure NatIs (a b : Nat) : Prop where
  eq : a = b
structure CIs2 (c x : Int) : Prop where
  eq : c = x
structure Se (B : Nat → Nat) (c0 : Int) (k : Nat) (c : Int) : Prop where
  eq : c = se B c0 k
structure Mixed (c : Int) (b4 b5 b6 b7 : Nat) (y0 y1 y2 y3 y4 y5 y6 y7 : Int) : Prop where
  eq : mix c b4 b5 b6 b7 = bits .xor .u32 (bits .xor .u32 (bits .xor .u32 (bits .xor .u32 (bits .xor .u32 (bits .xor .u32 (bits .xor .u32 y0 y1) y2) y3) y4) y5) y6) y7
end Crc

/-- The eight looks into the tables. -/
theorem mixed {w : World} {g : Nat} (hT : TabsAt w g) {c : Int} (h0 : 0 ≤ c) (h1 : c < 4294967296) {b4 b5 b6 b7 m4 m5 m6 m7 : Nat} (r4 : b4 < 256) (r5 : b5 < 256) (r6 : b6 < 256) (r7 : b7 < 256)
    (e4 : c / 16777216 = m4) (e5 : c / 65536 % 256 = m5) (e6 : c / 256 % 256 = m6) (e7 : c % 256 = m7) :
    ∃ y0 y1 y2 y3 y4 y5 y6 y7 : Int, Crc.Mixed c b4 b5 b6 b7 y0 y1 y2 y3 y4 y5 y6 y7 ∧ w.cell? ⟨g, b7, none⟩ = some (.int .u32 y0) ∧ w.cell? ⟨g, 256 + b6, none⟩ = some (.int .u32 y1) ∧ w.cell? ⟨g, 512 + b5, none⟩ = some (.int .u32 y2) ∧ w.cell? ⟨g, 768 + b4, none⟩ = some (.int .u32 y3) ∧
      w.cell? ⟨g, 1024 + m4, none⟩ = some (.int .u32 y4) ∧ w.cell? ⟨g, 1280 + m5, none⟩ = some (.int .u32 y5) ∧ w.cell? ⟨g, 1536 + m6, none⟩ = some (.int .u32 y6) ∧ w.cell? ⟨g, 1792 + m7, none⟩ = some (.int .u32 y7) := by
  refine ⟨_, _, _, _, _, _, _, _, ⟨?_⟩, hT.at b7 (by omega), hT.at (256 + b6) (by omega), hT.at (512 + b5) (by omega), hT.at (768 + b4) (by omega), hT.at (1024 + m4) (by omega), hT.at (1280 + m5) (by omega), hT.at (1536 + m6) (by omega), hT.at (1792 + m7) (by omega)⟩
  unfold Crc.mix
  rw [show (c / 16777216).toNat = m4 by omega, show (c / 65536 % 256).toNat = m5 by omega, show (c / 256 % 256).toNat = m6 by omega, show (c % 256).toNat = m7 by omega]

set_option maxRecDepth 100000 in
set_option maxHeartbeats 1000000 in
theorem slicingUpd (g pb po n cap : Nat) (B : Nat → Nat) (c : Int) (w : World) (hT : TabsAt w g) (hB : BytesAt w pb po n B) (hn1 : 1 ≤ n) (hn : n < 4611686018427387904) (hcap : n ≤ cap) :
    Calls Tryz.prog 183 #[.int .u32 c, .pointer (some ⟨g, 0, none⟩), .slice (some ⟨pb, po, none⟩) n cap] w fun e w' => e = .returned (.int .u32 (Crc.sum B n c)) ∧ ∃ q, w' = w.drewN q := by
  by_cases h16 : n < 16
  · have hf : Crc.CIs2 (Crc.sum B n c) (Crc.inv (Crc.su B (Crc.inv c) n)) := ⟨by unfold Crc.sum; rw [if_pos h16]⟩
    rw [hf.eq]
    go_enter Tryz.func183, Tryz.ntmps183
    go_wp2_with fail
    refine (simpleUpd g pb po n cap B c w hT hB hn).mono ?_
    rintro e w' ⟨rfl, rfl⟩
    go_wp2_with fail
    go_ret
    exact ⟨rfl, 0, (World.drewN_zero _).symm⟩
  · have hf : Crc.CIs2 (Crc.sum B n c) (Crc.inv (Crc.su (fun j => B (8 * ((n - 1) / 8) + j)) (Crc.inv (Crc.inv (Crc.se B (Crc.inv c) ((n - 1) / 8)))) (n - 8 * ((n - 1) / 8)))) := ⟨by unfold Crc.sum; rw [if_neg h16]⟩
    rw [hf.eq]
    clear hf
    obtain ⟨K, hK⟩ : ∃ K : Nat, Crc.NatIs K ((n - 1) / 8) := ⟨_, ⟨rfl⟩⟩
    rw [← hK.eq]
    have hic := Crc.inv_range c
    go_enter Tryz.func183, Tryz.ntmps183
    go_wp2_with fail
    go_loopw [0, 2] (fun vc vp wr => ∃ (k q n' cap' : Nat) (x : Int), vc = .int .u32 x ∧ vp = .slice (some ⟨pb, po + 8 * k, none⟩) n' cap' ∧ 8 * k + n' = n ∧ 1 ≤ n' ∧ n' ≤ cap' ∧ cap' ≤ cap ∧ Crc.Se B (Crc.inv c) k x ∧ wr = w.drewN q) (fun _ vp _ => lenOf vp)
    case atStart => exact ⟨0, 0, n, cap, _, rfl, by first | rfl | simp, by omega, hn1, hcap, Nat.le_refl _, ⟨rfl⟩, (World.drewN_zero _).symm⟩
    case round =>
      obtain ⟨k, q, n', cap', x, rfl, rfl, hk, hn', hc1, hc2, hx, rfl⟩ := hrel
      by_cases h8 : 8 < n'
      · have hBd : BytesAt w pb (po + 8 * k) n' (fun j => B (8 * k + j)) := by
          have := hB.drop (8 * k) (by omega)
          rwa [show n - 8 * k = n' by omega] at this
        have hle := leU pb (po + 8 * k) n' cap' _ (w.drewN q) (hBd.drewN q) h8 (by omega)
        have hLE := Lib.hid hle
        clear hle
        have a4 : w.cell? ⟨pb, po + 8 * k + 4, none⟩ = some (.int .u8 ((B (8 * k + 4) : Nat) : Int)) := hBd.cell 4 (by omega)
        have a5 : w.cell? ⟨pb, po + 8 * k + 5, none⟩ = some (.int .u8 ((B (8 * k + 5) : Nat) : Int)) := hBd.cell 5 (by omega)
        have a6 : w.cell? ⟨pb, po + 8 * k + 6, none⟩ = some (.int .u8 ((B (8 * k + 6) : Nat) : Int)) := hBd.cell 6 (by omega)
        have a7 : w.cell? ⟨pb, po + 8 * k + 7, none⟩ = some (.int .u8 ((B (8 * k + 7) : Nat) : Int)) := hBd.cell 7 (by omega)
        have r4 : B (8 * k + 4) < 256 := hBd.range 4
        have r5 : B (8 * k + 5) < 256 := hBd.range 5
        have r6 : B (8 * k + 6) < 256 := hBd.range 6
        have r7 : B (8 * k + 7) < 256 := hBd.range 7
        obtain ⟨c', hc'⟩ : ∃ c', Crc.CIs2 c' (bits .xor .u32 x (Crc.le4 (B (8 * k + 0)) (B (8 * k + 1)) (B (8 * k + 2)) (B (8 * k + 3)))) := ⟨_, ⟨rfl⟩⟩
        obtain ⟨hp0, hp1⟩ : 0 ≤ c' ∧ c' < 4294967296 := by rw [hc'.eq]; exact Crc.u32_range _ _ _
        obtain ⟨m4, e4⟩ : ∃ m : Nat, c' / 16777216 = m := ⟨(c' / 16777216).toNat, by omega⟩
        obtain ⟨m5, e5⟩ : ∃ m : Nat, c' / 65536 % 256 = m := ⟨(c' / 65536 % 256).toNat, by omega⟩
        obtain ⟨m6, e6⟩ : ∃ m : Nat, c' / 256 % 256 = m := ⟨(c' / 256 % 256).toNat, by omega⟩
        obtain ⟨m7, e7⟩ : ∃ m : Nat, c' % 256 = m := ⟨(c' % 256).toNat, by omega⟩
        obtain ⟨y0, y1, y2, y3, y4, y5, y6, y7, hM, t0, t1, t2, t3, t4, t5, t6, t7⟩ := mixed hT hp0 hp1 r4 r5 r6 r7 e4 e5 e6 e7
        have l5 : bits .and .u32 (c' / 65536) 255 = (m5 : Int) := (Crc.low_byte _ (by omega) (by omega)).trans e5
        have l6 : bits .and .u32 (c' / 256) 255 = (m6 : Int) := (Crc.low_byte _ (by omega) (by omega)).trans e6
        have l7 : bits .and .u32 c' 255 = (m7 : Int) := (Crc.low_byte _ hp0 hp1).trans e7
        have hm4 : m4 < 256 := by omega
        have hm5 : m5 < 256 := by omega
        have hm6 : m6 < 256 := by omega
        have hm7 : m7 < 256 := by omega
        have hNext : Crc.Se B (Crc.inv c) (k + 1) (bits .xor .u32 (bits .xor .u32 (bits .xor .u32 (bits .xor .u32 (bits .xor .u32 (bits .xor .u32 (bits .xor .u32 y0 y1) y2) y3) y4) y5) y6) y7) := ⟨by
          rw [← hM.eq, Crc.se_succ, ← hx.eq]
          unfold Crc.eight
          rw [← hc'.eq]⟩
        generalize B (8 * k + 4) = z4 at a4 r4 hM t3
        generalize B (8 * k + 5) = z5 at a5 r5 hM t2
        generalize B (8 * k + 6) = z6 at a6 r6 hM t1
        generalize B (8 * k + 7) = z7 at a7 r7 hM t0
        clear hM e5 e6 e7
        have z4i : (z4 : Int) < 256 := by omega
        have z5i : (z5 : Int) < 256 := by omega
        have z6i : (z6 : Int) < 256 := by omega
        have z7i : (z7 : Int) < 256 := by omega
        have m4i : (m4 : Int) < 256 := by omega
        have m5i : (m5 : Int) < 256 := by omega
        have m6i : (m6 : Int) < 256 := by omega
        have m7i : (m7 : Int) < 256 := by omega
        have i7 : (7 : Int) < (n' : Int) := by omega
        have i6 : (6 : Int) < (n' : Int) := by omega
        have i5 : (5 : Int) < (n' : Int) := by omega
        have i4 : (4 : Int) < (n' : Int) := by omega
        have hcx := hc'.eq.symm
        clear hc'
        generalize hL : Crc.le4 (B (8 * k + 0)) (B (8 * k + 1)) (B (8 * k + 2)) (B (8 * k + 3)) = L at hcx
        have HL := Lib.hid hL
        clear hL
        go_wp2_with fail
        refine hLE.out.mono ?_
        rintro e w' ⟨rfl, q2, rfl⟩
        rw [HL.out]
        go_wp2_with fail
        go_quiet (fail)
        go_wp2_with fail
        go_roundw
        case rel => exact ⟨k + 1, q + q2 + nq, n' - 8, cap' - 8, _, rfl, by simp <;> omega, by omega, by omega, by omega, by omega, hNext, by first | rfl | trivial | simp⟩
        case measure => simp [lenOf]; omega
      · obtain rfl : k = K := by have := hK.eq; omega
        obtain rfl : n' = n - 8 * k := by omega
        have hBd : BytesAt w pb (po + 8 * k) (n - 8 * k) (fun j => B (8 * k + j)) := hB.drop (8 * k) (by omega)
        have hi8 : ¬ (8 : Int) < ((n - 8 * k : Nat) : Int) := by omega
        go_wp2_with fail
        refine (simpleUpd g pb (po + 8 * k) (n - 8 * k) cap' _ _ (w.drewN q) (hT.drewN q) (hBd.drewN q) (by omega)).mono ?_
        rintro e w' ⟨rfl, rfl⟩
        go_wp2_with fail
        go_ret
        exact ⟨by rw [← hx.eq]; rfl, q, rfl⟩

set_option maxRecDepth 100000 in
set_option maxHeartbeats 400000 in
theorem checksum (pb po n cap : Nat) (B : Nat → Nat) (w : World) (hB : BytesAt w pb po n B) (hn1 : 1 ≤ n) (hn : n < 4611686018427387904) (hcap : n ≤ cap) :
    Calls Tryz.prog 169 #[.slice (some ⟨pb, po, none⟩) n cap] w fun e w' => e = .returned (.int .u32 (Crc.sum B n 0)) ∧ Below w.heap.size w w' := by
  have hlt : pb < w.heap.size := World.block_lt_of_cell? _ _ (hB.cell 0 (by omega))
  have h177 : Calls Tryz.prog 177 #[.int .u32 0, .slice (some ⟨pb, po, none⟩) n cap] w fun e w' => e = .returned (.int .u32 (Crc.sum B n 0)) ∧ Below w.heap.size w w' := by
    go_enter Tryz.func177, Tryz.ntmps177
    go_wp2_with fail
    refine (slicing w).mono ?_
    rintro e w1 ⟨g, rfl, hg, hT, hb⟩
    have hT1 : TabsAt w1 g := ⟨hT⟩
    have hB1 : BytesAt w1 pb po n B := ⟨fun k hk => (hb.cell (p := ⟨pb, po + k, none⟩) hlt).trans (hB.cell k hk), hB.range⟩
    clear hT
    go_wp2_with fail
    refine (slicingUpd g pb po n cap B 0 w1 hT1 hB1 hn1 hn hcap).mono ?_
    rintro e w' ⟨rfl, q, rfl⟩
    go_wp2_with fail
    go_ret
    exact ⟨rfl, below_drewN hb q⟩
  go_enter Tryz.func169, Tryz.ntmps169
  go_wp2_with fail
  refine h177.mono ?_
  rintro e w' ⟨rfl, hb⟩
  go_wp2_with fail
  go_ret
  exact ⟨rfl, hb⟩
end Go.Proofs.YtmfdbcfpcifmcaaGreatDoor
