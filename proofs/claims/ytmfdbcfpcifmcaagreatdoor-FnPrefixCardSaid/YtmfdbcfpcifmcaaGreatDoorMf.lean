/- What the kit's shelf says of five functions of Go's library, at this program. (Written by the kit's lay-shelf.mjs and lay-plain.mjs.) | Numbers as text: strconv.Itoa and FormatUint, whatever the table of powers of ten holds. | From a world's shape to what the walks take of the table of powers of ten: it holds twenty numbers, whatever they are. | A candidate's methods, whatever its kind. (Written by mkmeth.py.) | A candidate's extensions, where it has none but its TCP type. | A candidate's text: that there is one. | The methods of the four kinds of candidates, as the interface finds them. (Merged by merge.py out of Shelf, Num, TabLaid, Meth, Ext, Marsh, PlainM.) -/
import Derived.Shelf.Strconv.Itoa0
import Derived.Shelf.Strconv.Itoa1
import Derived.Shelf.LaysM
import Derived.Shelf.Strings.Prefix
import Derived.Test.YtmfdbcfpcifmcaaGreatDoorProg
import Derived.Test.YtmfdbcfpcifmcaaGreatDoorFmt10
import Derived.Laws.IdiomStrings
import Derived.Laws.Slices
import Derived.Test.YtmfdbcfpcifmcaaGreatDoorPrefs
import Derived.Test.YtmfdbcfpcifmcaaGreatDoorMc
import Derived.Laws.CopyRow
import Derived.Laws.MakeOwn
import Derived.Deep.RegionHeld3
namespace Go.Proofs
open Go.Shelf
def Tryz.lays129_ren : Go.Shelf.Ren := ⟨fun | 129 => 187 | n => n, fun | 53 => 39 | 3 => 3 | 4 => 4 | 46 => 73 | 5 => 5 | 9 => 9 | n => n, fun | n => n⟩
theorem Tryz.lays129 : Go.Proofs.Lays.n129 Tryz.prog Tryz.lays129_ren := {
  mixed := by kernel_rfl
  f129 := Tryz.func187.trans (congrArg some (by kernel_rfl))
  t3 := Tryz.underlying3
  a3 := Tryz.isAgg3
  z3 := Tryz.sizeOf3
  v3 := Tryz.zeroValue3
  t4 := Tryz.underlying4
  a4 := Tryz.isAgg4
  z4 := Tryz.sizeOf4
  v4 := Tryz.zeroValue4
  t5 := Tryz.underlying5
  a5 := Tryz.isAgg5
  z5 := Tryz.sizeOf5
  v5 := Tryz.zeroValue5
  t9 := Tryz.underlying9
  a9 := Tryz.isAgg9
  z9 := Tryz.sizeOf9
  v9 := Tryz.zeroValue9
  t46 := Tryz.underlying73
  a46 := Tryz.isAgg73
  z46 := Tryz.sizeOf73
  v46 := Tryz.zeroValue73
  t53 := Tryz.underlying39
  a53 := Tryz.isAgg39
  z53 := Tryz.sizeOf39
  v53 := Tryz.zeroValue39 }
/-- bits.Len64: "Len64 returns the minimum number of bits required to represent x; the result is 0 for x == 0.": IT RETURNS 'Lib.bitLen x'; the world is as it was. ('h0', 'h1': x is a uint64.) (LAID: no walk: one application.) -/
theorem Tryz.bits_Len64 (x : Int) (w : World) (h0 : 0 ≤ x) (h1 : x ≤ 18446744073709551615) :
    Calls Tryz.prog 187 #[.int .u64 x] w fun e w' => e = .returned (.int .i64 (Lib.bitLen x.toNat)) ∧ w' = w := Any.bits_Len64 Tryz.lays129 x w h0 h1
def Tryz.lays317_ren : Go.Shelf.Ren := ⟨fun | 317 => 186 | n => n, fun | 3 => 3 | 46 => 73 | n => n, fun | n => n⟩
theorem Tryz.lays317 : Go.Proofs.Lays.n317 Tryz.prog Tryz.lays317_ren := {
  mixed := by kernel_rfl
  f317 := Tryz.func186.trans (congrArg some (by kernel_rfl))
  t3 := Tryz.underlying3
  a3 := Tryz.isAgg3
  z3 := Tryz.sizeOf3
  v3 := Tryz.zeroValue3
  t46 := Tryz.underlying73
  a46 := Tryz.isAgg73
  z46 := Tryz.sizeOf73
  v46 := Tryz.zeroValue73 }
open Go.Lib in
/-- internal/strconv.log10Pow2: "log10Pow2(x) returns ⌊log₁₀ 2**x⌋ = ⌊x * log₁₀ 2⌋.": '(x * 78913) >> 18', at an x up to 64 (a length in bits). The world is as it was. (LAID: no walk: one application.) -/
theorem Tryz.internal_strconv_log10Pow2 (x : Nat) (h : x ≤ 64) (w : World) :
    Calls Tryz.prog 186 #[.int .i64 x] w fun e w' => e = .returned (.int .i64 (Lib.l10 x)) ∧ w' = w := Any.internal_strconv_log10Pow2 Tryz.lays317 x h w
def Tryz.lays318_ren : Go.Shelf.Ren := ⟨fun | 318 => 188 | n => n, fun | 3 => 3 | 4 => 4 | n => n, fun | n => n⟩
theorem Tryz.lays318 : Go.Proofs.Lays.n318 Tryz.prog Tryz.lays318_ren := {
  mixed := by kernel_rfl
  f318 := Tryz.func188.trans (congrArg some (by kernel_rfl))
  t3 := Tryz.underlying3
  a3 := Tryz.isAgg3
  z3 := Tryz.sizeOf3
  v3 := Tryz.zeroValue3
  t4 := Tryz.underlying4
  a4 := Tryz.isAgg4
  z4 := Tryz.sizeOf4
  v4 := Tryz.zeroValue4 }
open Go.Lib in
/-- internal/strconv.bool2: "bool2 converts b to an integer: 1 for true, 0 for false." The world is as it was. (LAID: no walk: one application.) -/
theorem Tryz.internal_strconv_bool2_int (b : Bool) (w : World) :
    Calls Tryz.prog 188 #[.bool b] w fun e w' => e = .returned (.int .i64 (if b then 1 else 0)) ∧ w' = w := Any.internal_strconv_bool2_int Tryz.lays318 b w
def Tryz.lays283_ren : Go.Shelf.Ren := ⟨fun | 283 => 179 | n => n, fun | 3 => 3 | 9 => 9 | 4 => 4 | n => n, fun | n => n⟩
theorem Tryz.lays283 : Go.Proofs.Lays.n283 Tryz.prog Tryz.lays283_ren := {
  mixed := by kernel_rfl
  f283 := Tryz.func179.trans (congrArg some (by kernel_rfl))
  t3 := Tryz.underlying3
  a3 := Tryz.isAgg3
  z3 := Tryz.sizeOf3
  v3 := Tryz.zeroValue3
  t4 := Tryz.underlying4
  a4 := Tryz.isAgg4
  z4 := Tryz.sizeOf4
  v4 := Tryz.zeroValue4
  t9 := Tryz.underlying9
  a9 := Tryz.isAgg9
  z9 := Tryz.sizeOf9
  v9 := Tryz.zeroValue9 }
open Go.Lib in
/-- internal/strconv.small: "small returns the string for an i with 0 <= i < nSmalls.": i's decimal numeral. The world is as it was. (LAID: no walk: one application.) -/
theorem Tryz.internal_strconv_small (i : Nat) (h : i < 100) (w : World) :
    Calls Tryz.prog 179 #[.int .i64 i] w fun e w' => e = .returned (.string ⟨(Lib.decDigits i).toArray⟩) ∧ w' = w := Any.internal_strconv_small Tryz.lays283 i h w
def Tryz.lays101_ren : Go.Shelf.Ren := ⟨fun | 101 => 63 | 208 => 82 | 206 => 94 | n => n, fun | 9 => 9 | 4 => 4 | 3 => 3 | n => n, fun | n => n⟩
theorem Tryz.lays101 : Go.Proofs.Lays.n101 Tryz.prog Tryz.lays101_ren := {
  mixed := by kernel_rfl
  f101 := Tryz.func63.trans (congrArg some (by kernel_rfl))
  f206 := Tryz.func94.trans (congrArg some (by kernel_rfl))
  f208 := Tryz.func82.trans (congrArg some (by kernel_rfl))
  t3 := Tryz.underlying3
  a3 := Tryz.isAgg3
  z3 := Tryz.sizeOf3
  v3 := Tryz.zeroValue3
  t4 := Tryz.underlying4
  a4 := Tryz.isAgg4
  z4 := Tryz.sizeOf4
  v4 := Tryz.zeroValue4
  t9 := Tryz.underlying9
  a9 := Tryz.isAgg9
  z9 := Tryz.sizeOf9
  v9 := Tryz.zeroValue9 }
open Go.RowKit Go.Lib in
/-- strings.TrimPrefix: "TrimPrefix returns s without the provided leading prefix string. If s doesn't start with prefix, s is returned unchanged.": IT RETURNS 'Lib.trimPrefix s prefix'; the world is as it was. (LAID: no walk: one application.) -/
theorem Tryz.strings_TrimPrefix (s p : ByteArray) (w : World) :
    Calls Tryz.prog 63 #[.string s, .string p] w fun e w' => e = .returned (.string ⟨(Lib.trimPrefix s.data.toList p.data.toList).toArray⟩) ∧ w' = w := Any.strings_TrimPrefix Tryz.lays101 s p w
end Go.Proofs

namespace Go.Proofs.YtmfdbcfpcifmcaaGreatDoor
open Go.RowKit Go.Sort

/-- The table of powers of ten holds twenty numbers. -/
def TabU (w : World) (T : Nat → Nat) : Prop := ∀ i, i < 20 → w.cell? ⟨7, i, none⟩ = some (.int .u64 ((T i : Nat) : Int))
theorem TabU.below {a w : World} {B : Nat} {T : Nat → Nat} (h : TabU a T) (hb : Below B a w) (hB : 7 < B) : TabU w T := fun i hi => (hb.cell (p := ⟨7, i, none⟩) hB).trans (h i hi)
theorem TabU.lt {w : World} {T : Nat → Nat} (h : TabU w T) : 7 < w.heap.size := World.block_lt_of_cell? _ _ (h 0 (by omega))

theorem below_row (w : World) (o : Obj) (off : Nat) (d : Array UInt8) (n : Nat) : Below w.heap.size w ((putRow E8 (w.alloc o) w.heap.size off d).drewN n) := by
  have h := (Below.refl w.heap.size w).alloc (Nat.le_refl _) o
  refine below_drewN ?_ n
  refine ⟨h.os, h.tape, h.output, Nat.le_trans h.size (Nat.le_of_eq (size_putRow _ _ _ _ _).symm), fun k hk => ?_⟩
  have e := putRow_grow_new E8 w #[o] w.heap.size off d (Nat.le_refl _)
  rw [alloc_eq_grow]
  obtain ⟨os', _, e⟩ := e
  rw [e]
  have hg : (grow w os').heap[k]? = w.heap[k]? := by simp [grow, Array.getElem?_append, hk]
  exact hg

set_option maxRecDepth 100000 in
set_option maxHeartbeats 2000000 in
theorem numDig (u : Nat) (h1 : 100 ≤ u) (h2 : u < 18446744073709551616) (T : Nat → Nat) (w : World) (hT : TabU w T) :
    Calls Tryz.prog 180 #[.int .u64 u] w fun e w' => e = .returned (.int .i64 (Fm.len T u)) ∧ w = w' := by
  obtain ⟨h19, _, h20, _⟩ := Fm.len_ok T u h1 h2
  have hcell := hT (Lib.l10 (Lib.bitLen u)) (by omega)
  have hL : Lib.bitLen u ≤ 64 := Lib.bitLen_le u 64 (Nat.le_refl _) h2
  have hto : ((u : Int)).toNat = u := by omega
  have hlen : Fm.len T u = Lib.l10 (Lib.bitLen u) + (if T (Lib.l10 (Lib.bitLen u)) ≤ u then 1 else 0) := rfl
  generalize hq : Lib.l10 (Lib.bitLen u) = q at hcell hlen h19
  generalize hQ : T q = Q at hcell hlen
  have hq20 : q < 20 := by omega
  have HL := Lib.hid hlen
  clear hlen hT h20
  go_enter Tryz.func180, Tryz.ntmps180
  go_wp2_with fail
  refine (Tryz.bits_Len64 _ _ (by omega) (by omega)).mono ?_
  rintro e w' ⟨rfl, rfl⟩
  rw [hto]
  go_wp2_with fail
  refine (Tryz.internal_strconv_log10Pow2 _ hL _).mono ?_
  rintro e w' ⟨rfl, rfl⟩
  rw [hq]
  go_wp2_with fail
  refine (Tryz.internal_strconv_bool2_int _ _).mono ?_
  rintro e w' ⟨rfl, rfl⟩
  go_wp2_with fail
  all_goals go_ret
  all_goals
    refine ⟨?_, rfl⟩
    have hlen := HL.out
    congr 2
    split at hlen <;> simp_all <;> omega

theorem text_big (T : Nat → Nat) {u : Nat} (h : 100 ≤ u) : Fm.text T u = ⟨(Fm.row (Fm.len T u) u).toList.toArray⟩ := by
  unfold Fm.text
  rw [if_neg (by omega)]

set_option maxRecDepth 100000 in
set_option maxHeartbeats 2000000 in
theorem fmtUint (u : Nat) (h2 : u < 18446744073709551616) (T : Nat → Nat) (w : World) (hT : TabU w T) :
    Calls Tryz.prog 176 #[.int .u64 u, .int .i64 10] w fun e w' => e = .returned (.string (Fm.text T u)) ∧ Below w.heap.size w w' := by
  by_cases h1 : u < 100
  · go_enter Tryz.func176, Tryz.ntmps176
    go_wp2_with fail
    refine (Tryz.internal_strconv_small u h1 _).mono ?_
    rintro e w' ⟨rfl, rfl⟩
    go_wp2_with fail
    go_ret
    exact ⟨by unfold Fm.text; rw [if_pos h1]; rfl, Below.refl _ _⟩
  · obtain ⟨_, hlo, hhi, hpow⟩ := Fm.len_ok T u (by omega) h2
    have htx := Lib.hid (text_big T (u := u) (by omega))
    generalize hk : Fm.len T u = nd at hlo hhi hpow htx
    have hal : Tryz.prog.arrayLen 254 = 24 := by kernel_rfl
    have hH0 : Holds E8 (w.alloc (.cells Lib.zeros24 254)) w.heap.size 0 (Array.replicate nd (0 : UInt8)) := fun j hj => by
      have hj' : j < nd := by simpa using hj
      refine ⟨?_, World.frozen?_alloc_new _ _ _ _⟩
      rw [World.cell?_alloc_new, Lib.zeros24_at _ (by omega), getElem!_pos _ j hj]
      simp [E8]
    have hfmt := fmt10 w.heap.size 0 24 u (Array.replicate nd 0) (w.alloc (.cells Lib.zeros24 254)) hH0 (by rw [Array.size_replicate]; exact hpow) h2 (by rw [Array.size_replicate]; omega)
    rw [Array.size_replicate] at hfmt
    have HH0 := Lib.hid hH0
    have HF := Lib.hid hfmt
    have hsl : ∀ W, (Instr.sliceAt 254 (.pointer (some ⟨w.heap.size, 0, none⟩)) none (some (.int .i64 (nd : Int))) none).run Tryz.prog W = .ok (.slice (some ⟨w.heap.size, 0, none⟩) nd 24) W := fun W => by
      rw [run_sliceAt_array_h W 254 ⟨w.heap.size, 0, none⟩ (by kernel_rfl) .i64 (nd : Int) (by omega) (by rw [hal]; omega)]
      go_simp
    have hTA : TabU (w.alloc (.cells Lib.zeros24 254)) T := hT.below (below_al (Below.refl w.heap.size w) (Nat.le_refl _) _) hT.lt
    clear hH0 hfmt hal
    go_enter Tryz.func176, Tryz.ntmps176
    go_wp2_with fail
    refine (numDig u (by omega) h2 T _ hTA).mono ?_
    rintro e w' ⟨rfl, rfl⟩
    rw [hk]
    go_wp2_with fail
    refine HF.out.mono ?_
    rintro e w' ⟨rfl, n, rfl⟩
    have hcv : (convert 127 9 (.slice (some ⟨w.heap.size, 0, none⟩) nd 24)).run Tryz.prog ((putRow E8 (w.alloc (.cells Lib.zeros24 254)) w.heap.size 0 (Fm.row nd u)).drewN n) = .ok (.string ⟨(Fm.row nd u).toList.toArray⟩) ((putRow E8 (w.alloc (.cells Lib.zeros24 254)) w.heap.size 0 (Fm.row nd u)).drewN n) := by
      have h := run_convert_bytes_back (P := Tryz.prog) ((putRow E8 (w.alloc (.cells Lib.zeros24 254)) w.heap.size 0 (Fm.row nd u)).drewN n) 127 9 5 ⟨w.heap.size, 0, none⟩ 24 (Fm.row nd u).toList (by kernel_rfl) (by kernel_rfl) (by kernel_rfl) (fun j hj => by
        have hj' : j < (Fm.row nd u).size := by simpa using hj
        have hc := cell?_putRow E8 (w.alloc (.cells Lib.zeros24 254)) w.heap.size 0 _ (Fm.row nd u) HH0.out (by rw [Fm.row_size, Array.size_replicate]) j hj'
        rw [Lib.add_plain, World.cell?_drewN, hc, getElem!_pos _ j hj']
        simp [E8])
      rw [show (Fm.row nd u).toList.length = nd by rw [Array.length_toList, Fm.row_size]] at h
      exact h
    go_wp2_with fail
    go_ret
    rw [htx.out]
    exact ⟨rfl, below_row _ _ _ _ _⟩

set_option maxRecDepth 100000 in
set_option maxHeartbeats 2000000 in
theorem formatUint (u : Nat) (h2 : u < 18446744073709551616) (T : Nat → Nat) (w : World) (hT : TabU w T) :
    Calls Tryz.prog 168 #[.int .u64 u, .int .i64 10] w fun e w' => e = .returned (.string (Fm.text T u)) ∧ Below w.heap.size w w' := by
  go_enter Tryz.func168, Tryz.ntmps168
  go_wp2_with fail
  refine (fmtUint u h2 T _ hT).mono ?_
  rintro e w' ⟨rfl, hb⟩
  go_wp2_with fail
  go_ret
  exact ⟨rfl, hb⟩

set_option maxRecDepth 100000 in
set_option maxHeartbeats 2000000 in
theorem fmtInt (u : Nat) (h2 : u < 9223372036854775808) (T : Nat → Nat) (w : World) (hT : TabU w T) :
    Calls Tryz.prog 185 #[.int .i64 u, .int .i64 10] w fun e w' => e = .returned (.string (Fm.text T u)) ∧ Below w.heap.size w w' := by
  by_cases h1 : u < 100
  · go_enter Tryz.func185, Tryz.ntmps185
    go_wp2_with fail
    refine (Tryz.internal_strconv_small u h1 _).mono ?_
    rintro e w' ⟨rfl, rfl⟩
    go_wp2_with fail
    go_ret
    exact ⟨by unfold Fm.text; rw [if_pos h1]; rfl, Below.refl _ _⟩
  · have h2' : u < 18446744073709551616 := by omega
    obtain ⟨_, hlo, hhi, hpow⟩ := Fm.len_ok T u (by omega) h2'
    have htx := Lib.hid (text_big T (u := u) (by omega))
    generalize hk : Fm.len T u = nd at hlo hhi hpow htx
    have hal : Tryz.prog.arrayLen 254 = 24 := by kernel_rfl
    have hH0 := Lib.holds_zero w 254 nd (by omega)
    have hfmt := fmt10 w.heap.size 1 23 u (Array.replicate nd 0) (w.alloc (.cells Lib.zeros24 254)) hH0 (by rw [Array.size_replicate]; exact hpow) h2' (by rw [Array.size_replicate]; omega)
    rw [Array.size_replicate] at hfmt
    have HH0 := Lib.hid hH0
    have HF := Lib.hid hfmt
    have hsl : ∀ W, (Instr.sliceAt 254 (.pointer (some ⟨w.heap.size, 0, none⟩)) (some (.int .i64 1)) (some (.int .i64 (1 + (nd : Int)))) none).run Tryz.prog W = .ok (.slice (some ⟨w.heap.size, 1, none⟩) nd 23) W := fun W => by
      rw [run_sliceAt_array_lh W 254 ⟨w.heap.size, 0, none⟩ (by kernel_rfl) .i64 .i64 1 (1 + (nd : Int)) (by omega) (by omega) (by rw [hal]; omega)]
      go_simp
      omega
    have hTA : TabU (w.alloc (.cells Lib.zeros24 254)) T := hT.below (below_al (Below.refl w.heap.size w) (Nat.le_refl _) _) hT.lt
    clear hH0 hfmt hal
    go_enter Tryz.func185, Tryz.ntmps185
    go_wp2_with fail
    refine (numDig u (by omega) h2' T _ hTA).mono ?_
    rintro e w' ⟨rfl, rfl⟩
    rw [hk]
    go_wp2_with fail
    refine HF.out.mono ?_
    rintro e w' ⟨rfl, n, rfl⟩
    have hcv : (convert 127 9 (.slice (some ⟨w.heap.size, 1, none⟩) nd 23)).run Tryz.prog ((putRow E8 (w.alloc (.cells Lib.zeros24 254)) w.heap.size 1 (Fm.row nd u)).drewN n) = .ok (.string ⟨(Fm.row nd u).toList.toArray⟩) ((putRow E8 (w.alloc (.cells Lib.zeros24 254)) w.heap.size 1 (Fm.row nd u)).drewN n) := by
      have h := run_convert_bytes_back (P := Tryz.prog) ((putRow E8 (w.alloc (.cells Lib.zeros24 254)) w.heap.size 1 (Fm.row nd u)).drewN n) 127 9 5 ⟨w.heap.size, 1, none⟩ 23 (Fm.row nd u).toList (by kernel_rfl) (by kernel_rfl) (by kernel_rfl) (fun j hj => by
        have hj' : j < (Fm.row nd u).size := by simpa using hj
        have hc := cell?_putRow E8 (w.alloc (.cells Lib.zeros24 254)) w.heap.size 1 _ (Fm.row nd u) HH0.out (by rw [Fm.row_size, Array.size_replicate]) j hj'
        rw [Lib.add_plain, World.cell?_drewN, hc, getElem!_pos _ j hj']
        simp [E8])
      rw [show (Fm.row nd u).toList.length = nd by rw [Array.length_toList, Fm.row_size]] at h
      exact h
    go_wp2_with fail
    go_ret
    rw [htx.out]
    exact ⟨rfl, below_row _ _ _ _ _⟩

set_option maxRecDepth 100000 in
set_option maxHeartbeats 2000000 in
theorem itoa (u : Nat) (h2 : u < 9223372036854775808) (T : Nat → Nat) (w : World) (hT : TabU w T) :
    Calls Tryz.prog 172 #[.int .i64 u] w fun e w' => e = .returned (.string (Fm.text T u)) ∧ Below w.heap.size w w' := by
  have h178 : Calls Tryz.prog 178 #[.int .i64 u] w fun e w' => e = .returned (.string (Fm.text T u)) ∧ Below w.heap.size w w' := by
    go_enter Tryz.func178, Tryz.ntmps178
    go_wp2_with fail
    refine (fmtInt u h2 T _ hT).mono ?_
    rintro e w' ⟨rfl, hb⟩
    go_wp2_with fail
    go_ret
    exact ⟨rfl, hb⟩
  go_enter Tryz.func172, Tryz.ntmps172
  go_wp2_with fail
  refine h178.mono ?_
  rintro e w' ⟨rfl, hb⟩
  go_wp2_with fail
  go_ret
  exact ⟨rfl, hb⟩
end Go.Proofs.YtmfdbcfpcifmcaaGreatDoor

namespace Go.Proofs.YtmfdbcfpcifmcaaGreatDoor

theorem tab_row : ((begin Tryz.prog (fun _ _ => 0) default).world.heap[7]?).bind Obj.row? = some (Array.replicate 20 (.int .u64 0), 264) := by kernel_rfl

set_option maxRecDepth 100000 in
theorem tab_of_shape {w : World} (h : w.ShapedOpen Tryz.prog) : ∃ T : Nat → Nat, TabU w T := by
  obtain ⟨cs, hh, hs, hr⟩ := h.1 7 _ _ (of_decide_eq_true (by kernel_rfl)) tab_row
  have hb : Tryz.prog.buildable 264 = true := by kernel_rfl
  have hc : Tryz.prog.cellTypes Tryz.prog.depth 264 = some (List.replicate 20 39) := by kernel_rfl
  obtain ⟨ts, hts, _, hall⟩ := hr hb
  rw [hc] at hts
  cases hts
  have hs' : cs.size = 20 := by simpa using hs
  refine ⟨fun i => match cs[i]? with | some (.int _ n) => n.toNat | _ => 0, fun i hi => ?_⟩
  have hi' : i < cs.size := by omega
  obtain ⟨u, hu', hok⟩ := hall i cs[i] (by simp [hi'])
  have hu : u = 39 := by
    rw [List.length_replicate, Nat.mod_eq_of_lt hi, List.getElem?_replicate, if_pos hi] at hu'
    exact (Option.some.inj hu').symm
  subst hu
  have hcell : w.cell? ⟨7, i, none⟩ = some cs[i] := by simp [World.cell?, hh, hi']
  rw [hcell]
  unfold Cell.ok at hok
  rw [Tryz.underlying39] at hok
  have hg : cs[i]? = some cs[i] := by simp [hi']
  simp only [hg]
  cases hv : cs[i] <;> rw [hv] at hok <;> simp at hok
  case int k n =>
    obtain ⟨rfl, hn⟩ := hok
    have h0 : 0 ≤ n := hn.1
    simp only
    congr 2
    omega
end Go.Proofs.YtmfdbcfpcifmcaaGreatDoor

namespace Go.Proofs.YtmfdbcfpcifmcaaGreatDoor
open Go.RowKit

structure CCells (w : World) (g : Nat) (c : Cand) (rel : Option Addr) : Prop where
  c1 : w.cell? ⟨g, 1, none⟩ = some (.int .i64 c.net)
  c2 : w.cell? ⟨g, 2, none⟩ = some (.int .u8 c.typ)
  c3 : w.cell? ⟨g, 3, none⟩ = some (.int .u16 c.comp)
  c4 : w.cell? ⟨g, 4, none⟩ = some (.string c.addr)
  c5 : w.cell? ⟨g, 5, none⟩ = some (.int .i64 c.port)
  c6 : w.cell? ⟨g, 6, none⟩ = some (.pointer rel)
  c7 : w.cell? ⟨g, 7, none⟩ = some (.int .i64 c.tcp)
  c12 : w.cell? ⟨g, 12, none⟩ = some (.string c.found)
  c13 : w.cell? ⟨g, 13, none⟩ = some (.int .u32 c.prio)
  c14 : w.cell? ⟨g, 14, none⟩ = some (.int .u16 c.relay)
  c16 : w.cell? ⟨g, 16, none⟩ = some (c.exts)
theorem CCells.below {a w : World} {B g : Nat} {c : Cand} {rel : Option Addr} (h : CCells a g c rel) (hb : Below B a w) (hg : g < B) : CCells w g c rel :=
  ⟨(hb.cell (p := ⟨g, 1, none⟩) hg).trans h.c1, (hb.cell (p := ⟨g, 2, none⟩) hg).trans h.c2, (hb.cell (p := ⟨g, 3, none⟩) hg).trans h.c3, (hb.cell (p := ⟨g, 4, none⟩) hg).trans h.c4, (hb.cell (p := ⟨g, 5, none⟩) hg).trans h.c5, (hb.cell (p := ⟨g, 6, none⟩) hg).trans h.c6, (hb.cell (p := ⟨g, 7, none⟩) hg).trans h.c7, (hb.cell (p := ⟨g, 12, none⟩) hg).trans h.c12, (hb.cell (p := ⟨g, 13, none⟩) hg).trans h.c13, (hb.cell (p := ⟨g, 14, none⟩) hg).trans h.c14, (hb.cell (p := ⟨g, 16, none⟩) hg).trans h.c16⟩
theorem CCells.lt {w : World} {g : Nat} {c : Cand} {rel : Option Addr} (h : CCells w g c rel) : g < w.heap.size := World.block_lt_of_cell? _ _ h.c1
theorem CandAt.cells {w : World} {kind g : Nat} {c : Cand} {rel : Option Addr} (h : CandAt w kind g c rel) : CCells w g c rel := by
  obtain ⟨hi, lo, p, port16, last, r⟩ := h
  exact ⟨r.cell 1, r.cell 2, r.cell 3, r.cell 4, r.cell 5, r.cell 6, r.cell 7, r.cell 12, r.cell 13, r.cell 14, r.cell 16⟩

set_option maxRecDepth 100000 in
set_option maxHeartbeats 400000 in
theorem gType {w : World} {g : Nat} {c : Cand} {rel : Option Addr} (h : CCells w g c rel) : Calls Tryz.prog 162 #[.pointer (some ⟨g, 0, none⟩)] w fun e w' => e = .returned (.int .u8 c.typ) ∧ w = w' := by
  have c0 := h.c2
  go_enter Tryz.func162, Tryz.ntmps162
  go_wp2
  go_ret
  exact ⟨rfl, rfl⟩
set_option maxRecDepth 100000 in
set_option maxHeartbeats 400000 in
theorem gNet {w : World} {g : Nat} {c : Cand} {rel : Option Addr} (h : CCells w g c rel) : Calls Tryz.prog 155 #[.pointer (some ⟨g, 0, none⟩)] w fun e w' => e = .returned (.int .i64 c.net) ∧ w = w' := by
  have c0 := h.c1
  go_enter Tryz.func155, Tryz.ntmps155
  go_wp2
  go_ret
  exact ⟨rfl, rfl⟩
set_option maxRecDepth 100000 in
set_option maxHeartbeats 400000 in
theorem gTcp {w : World} {g : Nat} {c : Cand} {rel : Option Addr} (h : CCells w g c rel) : Calls Tryz.prog 161 #[.pointer (some ⟨g, 0, none⟩)] w fun e w' => e = .returned (.int .i64 c.tcp) ∧ w = w' := by
  have c0 := h.c7
  go_enter Tryz.func161, Tryz.ntmps161
  go_wp2
  go_ret
  exact ⟨rfl, rfl⟩
set_option maxRecDepth 100000 in
set_option maxHeartbeats 400000 in
theorem gComp {w : World} {g : Nat} {c : Cand} {rel : Option Addr} (h : CCells w g c rel) : Calls Tryz.prog 146 #[.pointer (some ⟨g, 0, none⟩)] w fun e w' => e = .returned (.int .u16 c.comp) ∧ w = w' := by
  have c0 := h.c3
  go_enter Tryz.func146, Tryz.ntmps146
  go_wp2
  go_ret
  exact ⟨rfl, rfl⟩
set_option maxRecDepth 100000 in
set_option maxHeartbeats 400000 in
theorem gAddr {w : World} {g : Nat} {c : Cand} {rel : Option Addr} (h : CCells w g c rel) : Calls Tryz.prog 145 #[.pointer (some ⟨g, 0, none⟩)] w fun e w' => e = .returned (.string c.addr) ∧ w = w' := by
  have c0 := h.c4
  go_enter Tryz.func145, Tryz.ntmps145
  go_wp2
  go_ret
  exact ⟨rfl, rfl⟩
set_option maxRecDepth 100000 in
set_option maxHeartbeats 400000 in
theorem gPort {w : World} {g : Nat} {c : Cand} {rel : Option Addr} (h : CCells w g c rel) : Calls Tryz.prog 156 #[.pointer (some ⟨g, 0, none⟩)] w fun e w' => e = .returned (.int .i64 c.port) ∧ w = w' := by
  have c0 := h.c5
  go_enter Tryz.func156, Tryz.ntmps156
  go_wp2
  go_ret
  exact ⟨rfl, rfl⟩
set_option maxRecDepth 100000 in
set_option maxHeartbeats 400000 in
theorem gRel {w : World} {g : Nat} {c : Cand} {rel : Option Addr} (h : CCells w g c rel) : Calls Tryz.prog 158 #[.pointer (some ⟨g, 0, none⟩)] w fun e w' => e = .returned (.pointer rel) ∧ w = w' := by
  have c0 := h.c6
  go_enter Tryz.func158, Tryz.ntmps158
  go_wp2
  go_ret
  exact ⟨rfl, rfl⟩

set_option maxRecDepth 100000 in
set_option maxHeartbeats 400000 in
theorem notEmpty {s : ByteArray} (h : 0 < s.size) : s.toList.isEmpty = false := by
  rw [ByteArray.toList_eq]
  cases hl : s.data.toList with
  | nil =>
    have e : s.data.toList.length = s.size := Array.length_toList
    rw [hl] at e
    simp at e
    omega
  | cons _ _ => rfl

set_option maxRecDepth 100000 in
set_option maxHeartbeats 400000 in
/-- The foundation of its own. -/
theorem ownFound {w : World} {g : Nat} {c : Cand} {rel : Option Addr} (h : CCells w g c rel) (hf : 0 < c.found.size) : Calls Tryz.prog 150 #[.pointer (some ⟨g, 0, none⟩)] w fun e w' => e = .returned (.string c.found) ∧ w = w' := by
  have c0 := h.c12
  have hne := notEmpty hf
  go_enter Tryz.func150, Tryz.ntmps150
  go_wp2_with fail
  go_ret
  exact ⟨rfl, rfl⟩

set_option maxRecDepth 100000 in
set_option maxHeartbeats 400000 in
/-- The priority of its own. -/
theorem ownPrio {w : World} {g : Nat} {c : Cand} {rel : Option Addr} (h : CCells w g c rel) (hp : c.prio ≠ 0) : Calls Tryz.prog 157 #[.pointer (some ⟨g, 0, none⟩)] w fun e w' => e = .returned (.int .u32 c.prio) ∧ w = w' := by
  have c0 := h.c13
  have hd : (c.prio == 0) = false := by simpa using hp
  go_enter Tryz.func157, Tryz.ntmps157
  go_wp2_with fail
  go_ret
  exact ⟨rfl, rfl⟩

def prioOf (kind loc comp : Int) : Int := 16777216 * kind + 256 * loc + (256 - comp)

set_option maxRecDepth 100000 in
set_option maxHeartbeats 1000000 in
/-- The priority that is reckoned. -/
theorem madePrio {w : World} {g : Nat} {c : Cand} {rel : Option Addr} (h : CCells w g c rel) (hp : c.prio = 0) (kp lp : Int) (hk0 : 0 ≤ kp) (hk1 : kp ≤ 126) (hl0 : 0 ≤ lp) (hl1 : lp ≤ 65535) (hc0 : 1 ≤ c.comp) (hc1 : c.comp ≤ 256)
    (hK : ∀ W, Below w.heap.size w W → Calls Tryz.prog 163 #[.pointer (some ⟨g, 0, none⟩)] W fun e w' => e = .returned (.int .u16 kp) ∧ W = w')
    (hL : ∀ W, Below w.heap.size w W → Calls Tryz.prog 153 #[.pointer (some ⟨g, 0, none⟩)] W fun e w' => e = .returned (.int .u16 lp) ∧ Below W.heap.size W w') :
    Calls Tryz.prog 157 #[.pointer (some ⟨g, 0, none⟩)] w fun e w' => e = .returned (.int .u32 (prioOf kp lp c.comp)) ∧ Below w.heap.size w w' := by
  have c0 := h.c13
  rw [hp] at c0
  go_enter Tryz.func157, Tryz.ntmps157
  go_wp2_with fail
  refine (hK _ (Below.refl _ _)).mono ?_
  rintro e w' ⟨rfl, rfl⟩
  go_wp2_with fail
  refine (hL _ (Below.refl _ _)).mono ?_
  rintro e w1 ⟨rfl, hb⟩
  clear c0
  go_wp2_with fail
  refine (gComp (h.below hb h.lt)).mono ?_
  rintro e w' ⟨rfl, rfl⟩
  go_wp2_with fail
  go_ret
  exact ⟨rfl, hb⟩

set_option maxRecDepth 100000 in
set_option maxHeartbeats 400000 in
theorem netShort (net : Int) (h1 : 1 ≤ net) (h4 : net ≤ 4) (w : World) : Calls Tryz.prog 173 #[.int .i64 net] w fun e w' => e = .returned (.string (if net = 1 ∨ net = 2 then ⟨#[117, 100, 112]⟩ else ⟨#[116, 99, 112]⟩)) ∧ w = w' := by
  have hn : net = 1 ∨ net = 2 ∨ net = 3 ∨ net = 4 := by omega
  rcases hn with rfl | rfl | rfl | rfl
  all_goals
    go_enter Tryz.func173, Tryz.ntmps173
    go_wp2
    go_ret
    exact ⟨rfl, rfl⟩

def kindStr (typ : Int) : ByteArray := if typ = 1 then ⟨#[104, 111, 115, 116]⟩ else if typ = 2 then ⟨#[115, 114, 102, 108, 120]⟩ else if typ = 3 then ⟨#[112, 114, 102, 108, 120]⟩ else ⟨#[114, 101, 108, 97, 121]⟩
set_option maxRecDepth 100000 in
set_option maxHeartbeats 400000 in
theorem kindName (typ : Int) (h1 : 1 ≤ typ) (h4 : typ ≤ 4) (w : World) : Calls Tryz.prog 53 #[.int .u8 typ] w fun e w' => e = .returned (.string (kindStr typ)) ∧ w = w' := by
  have hn : typ = 1 ∨ typ = 2 ∨ typ = 3 ∨ typ = 4 := by omega
  rcases hn with rfl | rfl | rfl | rfl
  all_goals
    go_enter Tryz.func53, Tryz.ntmps53
    go_wp2
    go_ret
    exact ⟨rfl, rfl⟩

def tcpStr (t : Int) : ByteArray := if t = 1 then ⟨#[97, 99, 116, 105, 118, 101]⟩ else if t = 2 then ⟨#[112, 97, 115, 115, 105, 118, 101]⟩ else ⟨#[115, 111]⟩
set_option maxRecDepth 100000 in
set_option maxHeartbeats 400000 in
theorem tcpName (t : Int) (h1 : 1 ≤ t) (h3 : t ≤ 3) (w : World) : Calls Tryz.prog 60 #[.int .i64 t] w fun e w' => e = .returned (.string (tcpStr t)) ∧ w = w' := by
  have hn : t = 1 ∨ t = 2 ∨ t = 3 := by omega
  rcases hn with rfl | rfl | rfl
  all_goals
    go_enter Tryz.func60, Tryz.ntmps60
    go_wp2
    go_ret
    exact ⟨rfl, rfl⟩

set_option maxRecDepth 100000 in
set_option maxHeartbeats 1000000 in
/-- A text without a percent sign is left as it is. -/
theorem noCut (s : ByteArray) (hs : s.size ≤ maxLen) (hp : ∀ i (h : i < s.size), (s[i]'h).toNat ≠ 37) (w : World) : Calls Tryz.prog 68 #[.string s] w fun e w' => e = .returned (.string s) ∧ w = w' := by
  have h85 : Calls Tryz.prog 85 #[.string s] w fun e w' => e = .returned (.tuple #[.string s, .string ⟨#[]⟩, .bool false]) ∧ w = w' := by
    have hmx : maxLen = 9223372036854775807 := rfl
    go_enter Tryz.func85, Tryz.ntmps85
    go_wp2_with fail
    go_loopw [5] (fun vi wr => ∃ i : Nat, vi = .int .i64 (i : Int) ∧ i ≤ s.size ∧ wr = w) (fun vi _ => s.size - (intOf vi).toNat)
    case atStart => exact ⟨0, rfl, Nat.zero_le _, rfl⟩
    case round =>
      obtain ⟨i, rfl, hi, rfl⟩ := hrel
      by_cases hlt : i < s.size
      · have hne : (((s[i]'hlt).toNat : Int) == 37) = false := by
          have := hp i hlt
          simp
          omega
        have hget : ((s[i]'hlt).toNat : Int) ≠ 37 := by have := hp i hlt; omega
        have hix : ∀ W, (Instr.index 9 (.string s) (.int .i64 (i : Int))).run Tryz.prog W = .ok (.int .u8 ((s[i]'hlt).toNat : Int)) W := fun W => by
          rw [run_index_string W 9 s .i64 _ Tryz.underlying9, dif_pos ⟨by omega, by omega⟩]
          have e : ((i : Int)).toNat = i := by omega
          simp only [e]
        generalize ((s[i]'hlt).toNat : Int) = z at hne hget hix
        go_wp2_with fail
        go_roundw
        case rel => exact ⟨i + 1, by go_num, by omega, by first | rfl | trivial⟩
        case measure => simp [intOf]; omega
      · go_wp2_with fail
        refine bodyPost_ret (v := .tuple #[.string s, .string ⟨#[]⟩, .bool false]) ?h1 rfl ⟨rfl, rfl⟩
        case h1 => simp [results, Tryz.results85, go_sem]
  go_enter Tryz.func68, Tryz.ntmps68
  go_wp2_with fail
  refine h85.mono ?_
  rintro e w' ⟨rfl, rfl⟩
  go_wp2_with fail
  go_ret
  exact ⟨rfl, rfl⟩

end Go.Proofs.YtmfdbcfpcifmcaaGreatDoor

namespace Go.Proofs.YtmfdbcfpcifmcaaGreatDoor
open Go.RowKit

def tcptypeS : ByteArray := ⟨#[116, 99, 112, 116, 121, 112, 101]⟩

theorem info115 : (Tryz.prog.info? 115).map (fun i => (i.zero, i.size, i.bytes)) = some (some (.agg #[(.string ⟨#[]⟩), (.string ⟨#[]⟩)]), 2, 32) := by kernel_rfl
theorem mkExts (n : Nat) (hn : n ≤ 6) (W : World) : (Instr.makeSlice 125 (.int .i64 ((n : Nat) : Int)) (.int .i64 ((n : Nat) : Int))).run Tryz.prog W = .ok (.slice (some ⟨W.heap.size, 0, none⟩) n n) (W.alloc (.cells (madeCells (Value.cells (.agg #[.string ⟨#[]⟩, .string ⟨#[]⟩])) (n * 2)) 115)) := by
  have h := info115
  cases hi : Tryz.prog.info? 115 with
  | none => rw [hi] at h; simp at h
  | some i =>
    rw [hi] at h
    simp only [Option.map_some, Option.some.injEq, Prod.mk.injEq] at h
    obtain ⟨hz, hs, hb⟩ := h
    have r := run_makeSlice (P := Tryz.prog) W 125 115 i _ Tryz.underlying125 hi hz .i64 .i64 (n : Int) (n : Int) (by omega) (by omega) (by rw [hs]; omega) (by rw [hb]; omega) (by omega)
    rw [hs] at r
    exact r
theorem made0 : madeCells (Value.cells (.agg #[.string ⟨#[]⟩, .string ⟨#[]⟩])) (0 * 2) = #[] := by first | kernel_rfl | rfl | simp [madeCells]
theorem made1 : madeCells (Value.cells (.agg #[.string ⟨#[]⟩, .string ⟨#[]⟩])) (1 * 2) = #[.string ⟨#[]⟩, .string ⟨#[]⟩] := by first | kernel_rfl | rfl | simp [madeCells]
theorem cpExts (a : Addr) (n m : Nat) (ty : TypeId) (W : World) : (Builtin.copy_ #[125, 125] ty #[.slice (some a) n m, .slice none 0 0]).run Tryz.prog W = .ok (goInt 0) W :=
  run_copy_nil Tryz.prog W 125 125 ty 115 a n m Tryz.underlying125 (by
    have h := info115
    cases hi : Tryz.prog.info? 115 with
    | none => rw [hi] at h; simp at h
    | some i => rfl)

set_option maxRecDepth 100000 in
set_option maxHeartbeats 1000000 in
theorem exts0 {w : World} {g : Nat} {c : Cand} {rel : Option Addr} (h : CCells w g c rel) (ht : c.tcp = 0) (hx : c.exts = .slice none 0 0) :
    Calls Tryz.prog 149 #[.pointer (some ⟨g, 0, none⟩)] w fun e w' => ∃ p n, e = .returned (.slice p 0 n) ∧ Below w.heap.size w w' := by
  have c16 := h.c16
  rw [hx] at c16
  have hlt := h.lt
  have hmk : ∀ W, (Instr.makeSlice 125 (.int .i64 0) (.int .i64 0)).run Tryz.prog W = .ok (.slice (some ⟨W.heap.size, 0, none⟩) 0 0) (W.alloc (.cells #[] 115)) := fun W => by rw [← made0]; exact mkExts 0 (by omega) W
  have hcp := cpExts
  go_enter Tryz.func149, Tryz.ntmps149
  go_wp2_with fail
  refine (gTcp h).mono ?_
  rintro e w' ⟨rfl, rfl⟩
  rw [ht]
  go_wp2_with fail
  go_region
  go_wp2_with fail
  go_ret
  exact ⟨_, _, rfl, below_drewN (below_al (Below.refl _ _) (Nat.le_refl _) _) 1⟩

set_option maxRecDepth 100000 in
set_option maxHeartbeats 1000000 in
theorem exts1 {w : World} {g : Nat} {c : Cand} {rel : Option Addr} (h : CCells w g c rel) (ht1 : 1 ≤ c.tcp) (ht3 : c.tcp ≤ 3) (hx : c.exts = .slice none 0 0) :
    Calls Tryz.prog 149 #[.pointer (some ⟨g, 0, none⟩)] w fun e w' => ∃ b : Nat, e = .returned (.slice (some ⟨b, 0, none⟩) 1 1) ∧ w.heap.size ≤ b ∧ Row w' b 115 #[.string tcptypeS, .string (tcpStr c.tcp)] ∧ Below w.heap.size w w' := by
  have c16 := h.c16
  rw [hx] at c16
  have hlt := h.lt
  have hmk : ∀ W, (Instr.makeSlice 125 (.int .i64 1) (.int .i64 1)).run Tryz.prog W = .ok (.slice (some ⟨W.heap.size, 0, none⟩) 1 1) (W.alloc (.cells #[.string ⟨#[]⟩, .string ⟨#[]⟩] 115)) := fun W => by rw [← made1]; exact mkExts 1 (by omega) W
  have hcp := cpExts
  have hd : (c.tcp == 0) = false := by simp; omega
  have hr := (Row.new w 115 #[.string ⟨#[]⟩, .string ⟨#[]⟩]).lt
  go_enter Tryz.func149, Tryz.ntmps149
  go_wp2_with fail
  refine (gTcp h).mono ?_
  rintro e w' ⟨rfl, rfl⟩
  go_wp2_with fail
  refine (tcpName c.tcp ht1 ht3 _).mono ?_
  rintro e w' ⟨rfl, rfl⟩
  go_wp2_with fail
  go_region
  go_wp2_with fail
  go_ret
  exact ⟨_, rfl, Nat.le_refl _, (Row.new _ _ _).drewN 1, below_drewN (below_al (Below.refl _ _) (Nat.le_refl _) _) 1⟩
end Go.Proofs.YtmfdbcfpcifmcaaGreatDoor

namespace Go.Proofs.YtmfdbcfpcifmcaaGreatDoor
open Go.RowKit

theorem tcpStr_size (t : Int) : (tcpStr t).size ≤ 7 := by
  unfold tcpStr
  split
  · decide
  · split <;> decide
theorem kindStr_size (t : Int) : (kindStr t).size ≤ 5 := by
  unfold kindStr
  split
  · decide
  · split
    · decide
    · split <;> decide

set_option maxRecDepth 100000 in
set_option maxHeartbeats 1000000 in
theorem marshExt {w : World} {g : Nat} {c : Cand} {rel : Option Addr} (h : CCells w g c rel) (ht0 : 0 ≤ c.tcp) (ht3 : c.tcp ≤ 3) (hx : c.exts = .slice none 0 0) :
    Calls Tryz.prog 174 #[.pointer (some ⟨g, 0, none⟩)] w fun e w' => ∃ s : ByteArray, e = .returned (.string s) ∧ s.size ≤ 100 ∧ Below w.heap.size w w' := by
  by_cases ht : c.tcp = 0
  · go_enter Tryz.func174, Tryz.ntmps174
    go_wp2_with fail
    refine (exts0 h ht hx).mono ?_
    rintro e w1 ⟨p, n, rfl, hb⟩
    go_wp2_with fail
    refine wp_loop_rounds 1 ?_
    rw [rounds_succ]
    go_wp2_with fail
    go_ret
    exact ⟨_, rfl, by decide, hb⟩
  · have hz := tcpStr_size c.tcp
    go_enter Tryz.func174, Tryz.ntmps174
    go_wp2_with fail
    refine (exts1 h (by omega) ht3 hx).mono ?_
    rintro e w1 ⟨b, rfl, hg, hr, hb⟩
    have c0 : w1.cell? ⟨b, 0, none⟩ = some (.string tcptypeS) := hr.cell 0
    have c1 : w1.cell? ⟨b, 1, none⟩ = some (.string (tcpStr c.tcp)) := hr.cell 1
    have hts : tcptypeS.size = 7 := by decide
    generalize tcptypeS = t0 at c0 hts
    generalize tcpStr c.tcp = t1 at c1 hz
    clear hr
    go_wp2_with fail
    refine wp_loop_rounds 2 ?_
    rw [rounds_succ]
    go_wp2_with fail
    go_quiet (fail)
    go_wp2_with fail
    rw [rounds_succ]
    go_wp2_with fail
    go_ret
    exact ⟨_, rfl, by simp only [Go.ByteArray.size_append', Go.ByteArray.size_mk', List.size_toArray, List.length_cons, List.length_nil]; omega, below_drewN hb _⟩

/-- Where a candidate's related address lies, and that it is one. -/
def RelAt (w : World) (rel : Option Addr) : Prop := rel = none ∨ ∃ (gr : Nat) (ra : ByteArray) (rp : Nat), rel = some ⟨gr, 0, none⟩ ∧ w.cell? ⟨gr, 0, none⟩ = some (.string ra) ∧ w.cell? ⟨gr, 1, none⟩ = some (.int .i64 (rp : Int)) ∧ 0 < ra.size ∧ ra.size ≤ 4294967296 ∧ 1 ≤ rp ∧ rp ≤ 65535

theorem isSpace {s : ByteArray} (h : s ≠ ⟨#[32]⟩) : (s.toList == [32]) = false := by
  rw [ByteArray.toList_eq]
  have hn : ¬ s.data.toList = [32] := fun e => h (ByteArray.ext (Array.toList_inj.1 (e.trans (by rfl))))
  simpa using hn

set_option maxRecDepth 100000 in
set_option maxHeartbeats 4000000 in
theorem marshal {w : World} {g : Nat} {c : Cand} {rel : Option Addr} (h : CCells w g c rel) (ht0 : 0 ≤ c.tcp) (ht3 : c.tcp ≤ 3) (hx : c.exts = .slice none 0 0)
    (hn1 : 1 ≤ c.net) (hn4 : c.net ≤ 4) (hk1 : 1 ≤ c.typ) (hk4 : c.typ ≤ 4) (comp port : Nat) (hcomp : c.comp = comp) (hport : c.port = port) (hc : comp ≤ 65535) (hp : port ≤ 65535)
    (hs : c.addr.size ≤ 4294967296) (hpc : ∀ i (h : i < c.addr.size), (c.addr[i]'h).toNat ≠ 37)
    (F : ByteArray) (hFs : F.size ≤ 4294967296) (hsp : F ≠ ⟨#[32]⟩) (hF : ∀ W, Below w.heap.size w W → Calls Tryz.prog 150 #[.pointer (some ⟨g, 0, none⟩)] W fun e w' => e = .returned (.string F) ∧ Below W.heap.size W w')
    (Pr : Nat) (hP1 : Pr < 4294967296) (hP : ∀ W, Below w.heap.size w W → Calls Tryz.prog 157 #[.pointer (some ⟨g, 0, none⟩)] W fun e w' => e = .returned (.int .u32 (Pr : Int)) ∧ Below W.heap.size W w')
    (T : Nat → Nat) (hT : TabU w T) (hrel : RelAt w rel) :
    Calls Tryz.prog 154 #[.pointer (some ⟨g, 0, none⟩)] w fun e w' => ∃ s : ByteArray, e = .returned (.string s) ∧ Below w.heap.size w w' := by
  have hsp' := isSpace hsp
  have hT7 := hT.lt
  have hmx : maxLen = 9223372036854775807 := rfl
  have hgl := h.lt
  obtain ⟨hc1, hc2⟩ := Fm.text_size T comp (by omega)
  obtain ⟨hp1, hp2⟩ := Fm.text_size T port (by omega)
  obtain ⟨hr1, hr2⟩ := Fm.text_size T Pr (by omega)
  have hks := kindStr_size c.typ
  go_enter Tryz.func154, Tryz.ntmps154
  go_wp2_with fail
  refine (hF _ (Below.refl _ _)).mono ?_
  rintro e w1 ⟨rfl, hb1⟩
  go_wp2_with fail
  have hl1 := hb1.size
  refine (gComp (h.below hb1 hgl)).mono ?_
  rintro e w' ⟨rfl, rfl⟩
  rw [hcomp]
  go_wp2_with fail
  refine (itoa comp (by omega) T _ (hT.below hb1 hT7)).mono ?_
  rintro e w2 ⟨rfl, hb⟩
  have hb2 := hb1.trans (hb.mono hl1)
  have hl2 := hb2.size
  clear hb hb1
  generalize Fm.text T comp = tc at hc1 hc2
  go_wp2_with fail
  refine (gNet (h.below hb2 hgl)).mono ?_
  rintro e w' ⟨rfl, rfl⟩
  go_wp2_with fail
  refine (netShort c.net hn1 hn4 _).mono ?_
  rintro e w' ⟨rfl, rfl⟩
  have hns : (if c.net = 1 ∨ c.net = 2 then (⟨#[117, 100, 112]⟩ : ByteArray) else ⟨#[116, 99, 112]⟩).size = 3 := by split <;> decide
  generalize (if c.net = 1 ∨ c.net = 2 then (⟨#[117, 100, 112]⟩ : ByteArray) else ⟨#[116, 99, 112]⟩) = tn at hns
  go_wp2_with fail
  refine (hP _ hb2).mono ?_
  rintro e w3 ⟨rfl, hb⟩
  have hb3 := hb2.trans (hb.mono hl2)
  have hl3 := hb3.size
  clear hb hb2
  go_wp2_with fail
  refine (formatUint Pr (by omega) T _ (hT.below hb3 hT7)).mono ?_
  rintro e w4 ⟨rfl, hb⟩
  have hb4 := hb3.trans (hb.mono hl3)
  have hl4 := hb4.size
  clear hb hb3
  generalize Fm.text T Pr = tr at hr1 hr2
  go_wp2_with fail
  refine (gAddr (h.below hb4 hgl)).mono ?_
  rintro e w' ⟨rfl, rfl⟩
  go_wp2_with fail
  refine (noCut c.addr (by omega) hpc _).mono ?_
  rintro e w' ⟨rfl, rfl⟩
  go_wp2_with fail
  refine (gPort (h.below hb4 hgl)).mono ?_
  rintro e w' ⟨rfl, rfl⟩
  rw [hport]
  go_wp2_with fail
  refine (itoa port (by omega) T _ (hT.below hb4 hT7)).mono ?_
  rintro e w5 ⟨rfl, hb⟩
  have hb5 := hb4.trans (hb.mono hl4)
  have hl5 := hb5.size
  clear hb hb4
  generalize Fm.text T port = tp at hp1 hp2
  go_wp2_with fail
  refine (gType (h.below hb5 hgl)).mono ?_
  rintro e w' ⟨rfl, rfl⟩
  go_wp2_with fail
  refine (kindName c.typ hk1 hk4 _).mono ?_
  rintro e w' ⟨rfl, rfl⟩
  generalize kindStr c.typ = tk at hks
  go_wp2_with fail
  refine (gRel (h.below hb5 hgl)).mono ?_
  rintro e w' ⟨rfl, rfl⟩
  rcases hrel with rfl | ⟨gr, ra, rp, rfl, q0, q1, hra0, hra, hrp1, hrp⟩
  · go_wp2_with fail
    refine (marshExt (h.below hb5 hgl) ht0 ht3 hx).mono ?_
    rintro e w6 ⟨s, rfl, hss, hb⟩
    have hb6 := hb5.trans (hb.mono hl5)
    clear hb hb5
    go_wp2_with fail
    all_goals
      go_ret
      exact ⟨_, rfl, hb6⟩
  · have q0' := (hb5.cell (p := ⟨gr, 0, none⟩) (World.block_lt_of_cell? _ _ q0)).trans q0
    have q1' := (hb5.cell (p := ⟨gr, 1, none⟩) (World.block_lt_of_cell? _ _ q1)).trans q1
    have hne := notEmpty hra0
    have hnz : ((rp : Int) == 0) = false := by simp; omega
    have hTd : TabU w5.drew T := (hT.below hb5 hT7).below (below_drewN (Below.refl _ _) 1) (by omega)
    obtain ⟨tq, ⟨hq1, hq2⟩, hI⟩ : ∃ tq : ByteArray, (1 ≤ tq.size ∧ tq.size ≤ 20) ∧ Calls Tryz.prog 172 #[.int .i64 (rp : Int)] w5.drew fun e w' => e = .returned (.string tq) ∧ Below w5.drew.heap.size w5.drew w' := ⟨_, Fm.text_size T rp (by omega), itoa rp (by omega) T _ hTd⟩
    clear q0 q1
    go_wp2_with fail
    generalize hS : F ++ ⟨#[32]⟩ ++ tc ++ ⟨#[32]⟩ ++ tn ++ ⟨#[32]⟩ ++ tr ++ ⟨#[32]⟩ ++ c.addr ++ ⟨#[32]⟩ ++ tp ++ ⟨#[32, 116, 121, 112, 32]⟩ ++ tk = S0
    have hS0 : S0.size ≤ 10000000000 := by
      rw [← hS]
      simp only [Go.ByteArray.size_append', Go.ByteArray.size_mk', List.size_toArray, List.length_cons, List.length_nil]
      omega
    have k1 : ¬ 9223372036854775807 < S0.size + 7 := by omega
    have k2 : ¬ 9223372036854775807 < S0.size + 7 + ra.size := by omega
    have k3 : ¬ 9223372036854775807 < S0.size + 7 + ra.size + 7 := by omega
    have k4 : ¬ 9223372036854775807 < S0.size + 7 + ra.size + 7 + tq.size := by omega
    have HS := Lib.hid hS
    clear hS
    go_region_held3 (fun w' => w'.cell? ⟨gr, 0, none⟩ = some (.string ra) ∧ w'.cell? ⟨gr, 1, none⟩ = some (.int .i64 (rp : Int)))
      (first | exact ⟨q0', q1'⟩ | exact ⟨(hbx.cell (World.block_lt_of_cell? _ _ q0')).trans q0', (hbx.cell (World.block_lt_of_cell? _ _ q1')).trans q1'⟩)
      (first | (go_at_call 172; refine hI.mono ?_; rintro e wx ⟨rfl, hbx⟩))
    rename_i hHeld
    clear hHeld
    have hb6 := hb5.trans (((below_drewN (Below.refl _ _) 1 : Below w5.heap.size w5 w5.drew).trans hbx).mono hl5)
    have hl6 := hb6.size
    clear hbx hb5 q0' q1' k1 k2 k3 k4
    go_wp2_with fail
    refine (marshExt (h.below hb6 hgl) ht0 ht3 hx).mono ?_
    rintro e w7 ⟨s, rfl, hss, hb⟩
    have hb7 := hb6.trans (hb.mono hl6)
    clear hb hb6
    go_wp2_with fail
    all_goals
      go_ret
      exact ⟨_, rfl, hb7⟩
end Go.Proofs.YtmfdbcfpcifmcaaGreatDoor

namespace Go.Proofs.YtmfdbcfpcifmcaaGreatDoor
open Go.RowKit

/-- The interface's methods, at whatever kind's pointer. -/
structure Meths (dyn : Nat) : Prop where
  mType : ∀ (W : World) (a : Addr), (method 378 dyn (.pointer (some a)) "Type").run Tryz.prog W = .ok (162, .pointer (some a)) W
  mNet : ∀ (W : World) (a : Addr), (method 378 dyn (.pointer (some a)) "NetworkType").run Tryz.prog W = .ok (155, .pointer (some a)) W
  mTcp : ∀ (W : World) (a : Addr), (method 378 dyn (.pointer (some a)) "TCPType").run Tryz.prog W = .ok (161, .pointer (some a)) W
  mFound : ∀ (W : World) (a : Addr), (method 378 dyn (.pointer (some a)) "Foundation").run Tryz.prog W = .ok (150, .pointer (some a)) W
  mComp : ∀ (W : World) (a : Addr), (method 378 dyn (.pointer (some a)) "Component").run Tryz.prog W = .ok (146, .pointer (some a)) W
  mPrio : ∀ (W : World) (a : Addr), (method 378 dyn (.pointer (some a)) "Priority").run Tryz.prog W = .ok (157, .pointer (some a)) W
  mAddr : ∀ (W : World) (a : Addr), (method 378 dyn (.pointer (some a)) "Address").run Tryz.prog W = .ok (145, .pointer (some a)) W
  mPort : ∀ (W : World) (a : Addr), (method 378 dyn (.pointer (some a)) "Port").run Tryz.prog W = .ok (156, .pointer (some a)) W
  mRel : ∀ (W : World) (a : Addr), (method 378 dyn (.pointer (some a)) "RelatedAddress").run Tryz.prog W = .ok (158, .pointer (some a)) W
  mExt : ∀ (W : World) (a : Addr), (method 378 dyn (.pointer (some a)) "Extensions").run Tryz.prog W = .ok (149, .pointer (some a)) W
  mText : ∀ (W : World) (a : Addr), (method 378 dyn (.pointer (some a)) "Marshal").run Tryz.prog W = .ok (154, .pointer (some a)) W
  mKind : ∀ (W : World) (a : Addr), (method 378 dyn (.pointer (some a)) "TypePreference").run Tryz.prog W = .ok (163, .pointer (some a)) W
  mLocal : ∀ (W : World) (a : Addr), (method 378 dyn (.pointer (some a)) "LocalPreference").run Tryz.prog W = .ok (153, .pointer (some a)) W
theorem meths (kind : Nat) : Meths (dynT kind) := by
  have h90 : Meths 90 := ⟨fun _ _ => by kernel_rfl, fun _ _ => by kernel_rfl, fun _ _ => by kernel_rfl, fun _ _ => by kernel_rfl, fun _ _ => by kernel_rfl, fun _ _ => by kernel_rfl, fun _ _ => by kernel_rfl, fun _ _ => by kernel_rfl, fun _ _ => by kernel_rfl, fun _ _ => by kernel_rfl, fun _ _ => by kernel_rfl, fun _ _ => by kernel_rfl, fun _ _ => by kernel_rfl⟩
  have h97 : Meths 97 := ⟨fun _ _ => by kernel_rfl, fun _ _ => by kernel_rfl, fun _ _ => by kernel_rfl, fun _ _ => by kernel_rfl, fun _ _ => by kernel_rfl, fun _ _ => by kernel_rfl, fun _ _ => by kernel_rfl, fun _ _ => by kernel_rfl, fun _ _ => by kernel_rfl, fun _ _ => by kernel_rfl, fun _ _ => by kernel_rfl, fun _ _ => by kernel_rfl, fun _ _ => by kernel_rfl⟩
  have h103 : Meths 103 := ⟨fun _ _ => by kernel_rfl, fun _ _ => by kernel_rfl, fun _ _ => by kernel_rfl, fun _ _ => by kernel_rfl, fun _ _ => by kernel_rfl, fun _ _ => by kernel_rfl, fun _ _ => by kernel_rfl, fun _ _ => by kernel_rfl, fun _ _ => by kernel_rfl, fun _ _ => by kernel_rfl, fun _ _ => by kernel_rfl, fun _ _ => by kernel_rfl, fun _ _ => by kernel_rfl⟩
  have h108 : Meths 108 := ⟨fun _ _ => by kernel_rfl, fun _ _ => by kernel_rfl, fun _ _ => by kernel_rfl, fun _ _ => by kernel_rfl, fun _ _ => by kernel_rfl, fun _ _ => by kernel_rfl, fun _ _ => by kernel_rfl, fun _ _ => by kernel_rfl, fun _ _ => by kernel_rfl, fun _ _ => by kernel_rfl, fun _ _ => by kernel_rfl, fun _ _ => by kernel_rfl, fun _ _ => by kernel_rfl⟩
  unfold dynT
  split
  · exact h90
  · exact h97
  · exact h103
  · exact h108

end Go.Proofs.YtmfdbcfpcifmcaaGreatDoor
