/- net/netip: which kind an address is of, by its handle: Is4, Is6, Is4In6, Unmap, and WithZone with the empty zone. -/
import Derived.Test.YtmfdbcfpcifmcaaGreatDoorAddr4
import Derived.LaidEqlPtr
import Derived.Laws.StructEq
namespace Go.Proofs.YtmfdbcfpcifmcaaGreatDoor
open Go.RowKit

theorem size214 : ∀ w, (sizeOf 214).run Tryz.prog w = .ok 2 w := fun _ => by kernel_rfl
theorem ptr_same_d (d : Nat) (w : World) (a : Addr) : (Op.equalIn (d + 1) 150 (.pointer (some a)) (.pointer (some a))).run Tryz.prog w = .ok true w := by
  simp [Op.equalIn, run_underlying Tryz.underlying150, size214 w, run_sameAddr_same]
theorem ptr_none_d (d : Nat) (w : World) (a : Addr) : (Op.equalIn (d + 1) 150 (.pointer (some a)) (.pointer none)).run Tryz.prog w = .ok false w := by
  simp [Op.equalIn, run_underlying Tryz.underlying150]
theorem ptr_other_d (d : Nat) (w : World) {a b : Addr} (hne : a ≠ b) (ha : ∃ c t, w.heap[a.block]? = some (.cells c t (0, 0))) (hb : ∃ c t, w.heap[b.block]? = some (.cells c t (0, 0))) :
    (Op.equalIn (d + 1) 150 (.pointer (some a)) (.pointer (some b))).run Tryz.prog w = .ok false w := by
  obtain ⟨c, t, ha⟩ := ha
  obtain ⟨d, u, hb⟩ := hb
  simp [Op.equalIn, run_underlying Tryz.underlying150, size214 w, run_sameAddr_other w hne ha hb]
theorem ptr_same (a : Addr) : ∀ w, (Op.equalIn 9999 150 (.pointer (some a)) (.pointer (some a))).run Tryz.prog w = .ok true w := fun w => ptr_same_d 9998 w a
theorem ptr_none (a : Addr) : ∀ w, (Op.equalIn 9999 150 (.pointer (some a)) (.pointer none)).run Tryz.prog w = .ok false w := fun w => ptr_none_d 9998 w a
theorem Glob.ptr_64 {w : World} {p4 p6 : Addr} (h : Glob w p4 p6) : (Op.equalIn 9999 150 (.pointer (some p6)) (.pointer (some p4))).run Tryz.prog w = .ok false w := ptr_other_d 9998 w h.ne.symm h.b6 h.b4

theorem Glob.lt4 {w : World} {p4 p6 : Addr} (h : Glob w p4 p6) : 4 < w.heap.size := World.block_lt_of_cell? _ _ h.z0
theorem Glob.al {w : World} {p4 p6 : Addr} (h : Glob w p4 p6) (o : Obj) : Glob (w.alloc o) p4 p6 := h.below (below_al (Below.refl _ _) (Nat.le_refl _) o)

set_option maxRecDepth 100000 in
set_option maxHeartbeats 400000 in
theorem is6_4 (hi lo : Int) (w : World) (p4 p6 : Addr) (hG : Glob w p4 p6) :
    Calls Tryz.prog 115 #[addrV hi lo p4] w fun e w' => e = .returned (.bool false) ∧ Below w.heap.size w w' := by
  have h0 := hG.z0
  have h4 := hG.z4
  have hn := ptr_none p4
  have hm := ptr_same p4
  have hlt := hG.lt4
  have hlt0 : 0 < w.heap.size := by omega
  clear hG
  unfold addrV
  go_enter Tryz.func115, Tryz.ntmps115
  go_wp2
  go_ret
  exact ⟨rfl, below_al (Below.refl _ _) (Nat.le_refl _) _⟩

set_option maxRecDepth 100000 in
set_option maxHeartbeats 400000 in
theorem is6_6 (hi lo : Int) (w : World) (p4 p6 : Addr) (hG : Glob w p4 p6) :
    Calls Tryz.prog 115 #[addrV hi lo p6] w fun e w' => e = .returned (.bool true) ∧ Below w.heap.size w w' := by
  have h0 := hG.z0
  have h4 := hG.z4
  have hn := ptr_none p6
  have hm := (hG.al (.cells #[.int .u64 hi, .int .u64 lo, .pointer (some p6)] 154)).ptr_64
  have hlt := hG.lt4
  have hlt0 : 0 < w.heap.size := by omega
  clear hG
  unfold addrV
  go_enter Tryz.func115, Tryz.ntmps115
  go_wp2
  go_ret
  exact ⟨rfl, below_al (Below.refl _ _) (Nat.le_refl _) _⟩

set_option maxRecDepth 100000 in
set_option maxHeartbeats 400000 in
theorem is4_4 (hi lo : Int) (w : World) (p4 p6 : Addr) (hG : Glob w p4 p6) :
    Calls Tryz.prog 93 #[addrV hi lo p4] w fun e w' => e = .returned (.bool true) ∧ Below w.heap.size w w' := by
  have h4 := hG.z4
  have hm := ptr_same p4
  have hlt := hG.lt4
  have hlt0 : 0 < w.heap.size := by omega
  clear hG
  unfold addrV
  go_enter Tryz.func93, Tryz.ntmps93
  go_wp2
  go_ret
  exact ⟨rfl, below_al (Below.refl _ _) (Nat.le_refl _) _⟩

set_option maxRecDepth 100000 in
set_option maxHeartbeats 400000 in
theorem is4_6 (hi lo : Int) (w : World) (p4 p6 : Addr) (hG : Glob w p4 p6) :
    Calls Tryz.prog 93 #[addrV hi lo p6] w fun e w' => e = .returned (.bool false) ∧ Below w.heap.size w w' := by
  have h4 := hG.z4
  have hm := (hG.al (.cells #[.int .u64 hi, .int .u64 lo, .pointer (some p6)] 154)).ptr_64
  have hlt := hG.lt4
  have hlt0 : 0 < w.heap.size := by omega
  clear hG
  unfold addrV
  go_enter Tryz.func93, Tryz.ntmps93
  go_wp2
  go_ret
  exact ⟨rfl, below_al (Below.refl _ _) (Nat.le_refl _) _⟩

/-- No address of IPv4 lies in this one of IPv6. -/
def Own6 (hi lo : Int) : Prop := (hi == 0) = false ∨ hi = 0 ∧ lo = 1

set_option maxRecDepth 100000 in
set_option maxHeartbeats 400000 in
theorem in6_4 (hi lo : Int) (w : World) (p4 p6 : Addr) (hG : Glob w p4 p6) :
    Calls Tryz.prog 107 #[addrV hi lo p4] w fun e w' => e = .returned (.bool false) ∧ Below w.heap.size w w' := by
  have hb := below_al (Below.refl w.heap.size w) (Nat.le_refl _) (.cells #[.int .u64 hi, .int .u64 lo, .pointer (some p4)] 154)
  have hA := hG.al (.cells #[.int .u64 hi, .int .u64 lo, .pointer (some p4)] 154)
  show Calls Tryz.prog 107 #[.agg #[.int .u64 hi, .int .u64 lo, .pointer (some p4)]] w _
  go_enter Tryz.func107, Tryz.ntmps107
  go_wp2_with fail
  refine (is6_4 hi lo _ p4 p6 hA).mono ?_
  rintro e w1 ⟨rfl, hb1⟩
  go_wp2_with fail
  go_ret
  exact ⟨rfl, below_next hb hb1 (by simp)⟩

set_option maxRecDepth 100000 in
set_option maxHeartbeats 400000 in
theorem in6_6 (hi lo : Int) (ho : Own6 hi lo) (w : World) (p4 p6 : Addr) (hG : Glob w p4 p6) :
    Calls Tryz.prog 107 #[addrV hi lo p6] w fun e w' => e = .returned (.bool false) ∧ Below w.heap.size w w' := by
  rcases ho with ho | ⟨rfl, rfl⟩
  · have hb := below_al (Below.refl w.heap.size w) (Nat.le_refl _) (.cells #[.int .u64 hi, .int .u64 lo, .pointer (some p6)] 154)
    have hA := hG.al (.cells #[.int .u64 hi, .int .u64 lo, .pointer (some p6)] 154)
    show Calls Tryz.prog 107 #[.agg #[.int .u64 hi, .int .u64 lo, .pointer (some p6)]] w _
    go_enter Tryz.func107, Tryz.ntmps107
    go_wp2_with fail
    refine (is6_6 hi lo _ p4 p6 hA).mono ?_
    rintro e w1 ⟨rfl, hb1⟩
    have hr : Row w1 w.heap.size 154 #[.int .u64 hi, .int .u64 lo, .pointer (some p6)] := (Row.new w 154 _).below hb1 (by simp)
    have q0 := hr.cell 0
    have q1 := hr.cell 1
    go_wp2_with fail
    go_ret
    exact ⟨rfl, below_next hb hb1 (by simp)⟩
  · have hb := below_al (Below.refl w.heap.size w) (Nat.le_refl _) (.cells #[.int .u64 0, .int .u64 1, .pointer (some p6)] 154)
    have hA := hG.al (.cells #[.int .u64 0, .int .u64 1, .pointer (some p6)] 154)
    show Calls Tryz.prog 107 #[.agg #[.int .u64 0, .int .u64 1, .pointer (some p6)]] w _
    go_enter Tryz.func107, Tryz.ntmps107
    go_wp2_with fail
    refine (is6_6 0 1 _ p4 p6 hA).mono ?_
    rintro e w1 ⟨rfl, hb1⟩
    have hr : Row w1 w.heap.size 154 #[.int .u64 0, .int .u64 1, .pointer (some p6)] := (Row.new w 154 _).below hb1 (by simp)
    have q0 := hr.cell 0
    have q1 := hr.cell 1
    go_wp2_with fail
    go_ret
    exact ⟨rfl, below_next hb hb1 (by simp)⟩

/-- What the two blocks of such a function hold behind a call of its own. -/
theorem two_rows {w w1 : World} {cs ds : Array Value} {t u : TypeId} (hb : Below ((w.alloc (.cells cs t)).alloc (.cells ds u)).heap.size ((w.alloc (.cells cs t)).alloc (.cells ds u)) w1) :
    Row w1 w.heap.size t cs ∧ Row w1 (w.heap.size + 1) u ds ∧ w.heap.size + 2 ≤ w1.heap.size := by
  refine ⟨((Row.new w t cs).alloc _).below hb (by simp; omega), ?_, by have := hb.size; simp at this; omega⟩
  have h := (Row.new (w.alloc (.cells cs t)) u ds).below hb (by simp)
  simpa using h

set_option maxRecDepth 100000 in
set_option maxHeartbeats 400000 in
theorem unmap_any (hi lo : Int) (p : Addr) (w : World) (p4 p6 : Addr) (hG : Glob w p4 p6)
    (hin : ∀ W : World, Glob W p4 p6 → Calls Tryz.prog 107 #[addrV hi lo p] W fun e w' => e = .returned (.bool false) ∧ Below W.heap.size W w') :
    Calls Tryz.prog 91 #[addrV hi lo p] w fun e w' => e = .returned (addrV hi lo p) ∧ Below w.heap.size w w' := by
  have hb := below_al (below_al (Below.refl w.heap.size w) (Nat.le_refl _) (.cells #[.int .u64 hi, .int .u64 lo, .pointer (some p)] 154)) (Nat.le_refl _) (.cells #[.int .u64 0, .int .u64 0, .pointer none] 154)
  have hA := hG.below hb
  show Calls Tryz.prog 91 #[.agg #[.int .u64 hi, .int .u64 lo, .pointer (some p)]] w _
  have HI := Lib.hid hin
  clear hin
  go_enter Tryz.func91, Tryz.ntmps91
  go_wp2_with fail
  refine (HI.out _ hA).mono ?_
  rintro e w1 ⟨rfl, hb1⟩
  obtain ⟨hr, hq, hsz⟩ := two_rows hb1
  have r0 := hr.cell 0
  have r1 := hr.cell 1
  have r2 := hr.cell 2
  have q0 := hq.cell 0
  have q1 := hq.cell 1
  have q2 := hq.cell 2
  have f0 := hq.free 0
  have f1 := hq.free 1
  have f2 := hq.free 2
  clear hr hq
  go_wp2_with fail
  refine bodyPost_ret (v := addrV hi lo p) ?h1 rfl ⟨rfl, ?h2⟩
  case h1 => simp [results, Tryz.results91, go_sem, q0, q1, q2, addrV]
  case h2 => exact below_st (below_st (below_st (below_next hb hb1 (by simp; omega)) (by omega) _ _) (by omega) _ _) (by omega) _ _

theorem unmap4 (hi lo : Int) (w : World) (p4 p6 : Addr) (hG : Glob w p4 p6) : Calls Tryz.prog 91 #[addrV hi lo p4] w fun e w' => e = .returned (addrV hi lo p4) ∧ Below w.heap.size w w' :=
  unmap_any hi lo p4 w p4 p6 hG fun W h => in6_4 hi lo W p4 p6 h
theorem unmap6 (hi lo : Int) (ho : Own6 hi lo) (w : World) (p4 p6 : Addr) (hG : Glob w p4 p6) : Calls Tryz.prog 91 #[addrV hi lo p6] w fun e w' => e = .returned (addrV hi lo p6) ∧ Below w.heap.size w w' :=
  unmap_any hi lo p6 w p4 p6 hG fun W h => in6_6 hi lo ho W p4 p6 h

set_option maxRecDepth 100000 in
set_option maxHeartbeats 400000 in
theorem noZone (hi lo : Int) (w : World) (p4 p6 : Addr) (hG : Glob w p4 p6) :
    Calls Tryz.prog 105 #[addrV hi lo p6, .string ⟨#[]⟩] w fun e w' => e = .returned (addrV hi lo p6) ∧ Below w.heap.size w w' := by
  have hb := below_al (below_al (Below.refl w.heap.size w) (Nat.le_refl _) (.cells #[.int .u64 hi, .int .u64 lo, .pointer (some p6)] 154)) (Nat.le_refl _) (.cells #[.int .u64 0, .int .u64 0, .pointer none] 154)
  have hA := hG.below hb
  show Calls Tryz.prog 105 #[.agg #[.int .u64 hi, .int .u64 lo, .pointer (some p6)], .string ⟨#[]⟩] w _
  go_enter Tryz.func105, Tryz.ntmps105
  go_wp2_with fail
  refine (is6_6 hi lo _ p4 p6 hA).mono ?_
  rintro e w1 ⟨rfl, hb1⟩
  obtain ⟨hr, hq, hsz⟩ := two_rows hb1
  have z6 := (hA.below hb1).z6
  have hlt := (hA.below hb1).lt4
  have hlt2 : 2 < w.heap.size := by have := hG.lt4; omega
  have r0 := hr.cell 0
  have r1 := hr.cell 1
  have r2 := hr.cell 2
  have s2 := hr.free 2
  have q0 := hq.cell 0
  have q1 := hq.cell 1
  have q2 := hq.cell 2
  have f0 := hq.free 0
  have f1 := hq.free 1
  have f2 := hq.free 2
  clear hr hq hlt hA
  go_wp2_with fail
  refine bodyPost_ret (v := addrV hi lo p6) ?h1 rfl ⟨rfl, ?h2⟩
  case h1 => simp [results, Tryz.results105, go_sem, q0, q1, q2, addrV]
  case h2 => exact below_st (below_st (below_st (below_st (below_next hb hb1 (by simp; omega)) (by omega) _ _) (by omega) _ _) (by omega) _ _) (by omega) _ _

/-- An address with its port by its cells. -/
def addrPortV (hi lo : Int) (p : Addr) (port : Int) : Value := .agg #[.int .u64 hi, .int .u64 lo, .pointer (some p), .int .u16 port]

set_option maxRecDepth 100000 in
set_option maxHeartbeats 400000 in
theorem addrPortFrom (hi lo : Int) (p : Addr) (port : Int) (w : World) :
    Calls Tryz.prog 79 #[addrV hi lo p, .int .u16 port] w fun e w' => e = .returned (addrPortV hi lo p port) ∧ Below w.heap.size w w' := by
  show Calls Tryz.prog 79 #[.agg #[.int .u64 hi, .int .u64 lo, .pointer (some p)], .int .u16 port] w _
  go_enter Tryz.func79, Tryz.ntmps79
  go_wp2
  refine bodyPost_ret (v := addrPortV hi lo p port) ?h1 rfl ⟨rfl, ?h2⟩
  case h1 => simp [results, Tryz.results79, go_sem, addrPortV]
  case h2 => exact below_al (below_al (Below.refl _ _) (Nat.le_refl _) _) (Nat.le_refl _) _
end Go.Proofs.YtmfdbcfpcifmcaaGreatDoor
