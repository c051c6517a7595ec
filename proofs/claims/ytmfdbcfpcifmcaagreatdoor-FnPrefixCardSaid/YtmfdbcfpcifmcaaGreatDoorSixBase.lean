/- net/netip: five texts of IPv6 are read as addresses of IPv6 in which no address of IPv4 lies. (Written by gen6.py of this claim's working folder.) -/
import Derived.Test.YtmfdbcfpcifmcaaGreatDoorMa
import Derived.Lib.SliceRun
import Derived.Laws.IdiomCopy
namespace Go.Proofs.YtmfdbcfpcifmcaaGreatDoor
open Go.RowKit

theorem byte_mk (a : Array UInt8) (i : Nat) (h : i < (ByteArray.mk a).size) : (ByteArray.mk a)[i]'h = a[i]'h := rfl
attribute [local go_sem] byte_mk

theorem zero5 (w : World) : (zeroValue 5).run Tryz.prog w = .ok (.int .u8 0) w := by kernel_rfl
theorem row16 (w : World) (O : Obj) (cs : Array Value) : Row ((w.alloc O).alloc (.cells cs 203)) (w.heap.size + 1) 203 cs := by simpa using Row.new (w.alloc O) 203 cs
theorem set16 (w : World) (O : Obj) (cs : Array Value) (i : Nat) (v : Value) : ((w.alloc O).alloc (.cells cs 203)).setCell ⟨w.heap.size + 1, i, none⟩ v = (w.alloc O).alloc (.cells (cs.setIfInBounds i v) 203) :=
  World.setCell_alloc_at (w := w.alloc O) cs 203 (w.heap.size + 1) i v (by simp)

set_option maxHeartbeats 1000000 in
theorem clr14 (w : World) (O : Obj) (a0 a1 a2 a3 a4 a5 a6 a7 a8 a9 a10 a11 a12 a13 a14 a15 : Value) (c : Nat) :
    (Builtin.clear_ #[127] 0 #[.slice (some ⟨w.heap.size + 1, 0, none⟩) 14 c]).run Tryz.prog ((w.alloc O).alloc (.cells #[a0, a1, a2, a3, a4, a5, a6, a7, a8, a9, a10, a11, a12, a13, a14, a15] 203)) =
      .ok (.tuple #[]) ((w.alloc O).alloc (.cells #[.int .u8 0, .int .u8 0, .int .u8 0, .int .u8 0, .int .u8 0, .int .u8 0, .int .u8 0, .int .u8 0, .int .u8 0, .int .u8 0, .int .u8 0, .int .u8 0, .int .u8 0, .int .u8 0, a14, a15] 203)) := by
  have hr := row16 w O #[a0, a1, a2, a3, a4, a5, a6, a7, a8, a9, a10, a11, a12, a13, a14, a15]
  rw [Lib.run_clear_slice _ 127 5 0 (.int .u8 0) Tryz.underlying127 zero5 rfl rfl _ 0 14 c (by omega) (fun j hj => by rw [hr.cell, Array.getElem?_eq_getElem (by simp; omega)]; rfl) (fun j _ => hr.free _)]
  refine congrArg (fun W : World => Result.ok (Value.tuple #[]) W) ?_
  simp only [List.replicate_succ, List.replicate_zero, World.setCells, set16, List.setIfInBounds_toArray, List.set_cons_zero, List.set_cons_succ, Nat.zero_add, Nat.reduceAdd]

set_option maxHeartbeats 1000000 in
theorem clr12 (w : World) (O : Obj) (a0 a1 a2 a3 a4 a5 a6 a7 a8 a9 a10 a11 a12 a13 a14 a15 : Value) (c : Nat) :
    (Builtin.clear_ #[127] 0 #[.slice (some ⟨w.heap.size + 1, 2, none⟩) 12 c]).run Tryz.prog ((w.alloc O).alloc (.cells #[a0, a1, a2, a3, a4, a5, a6, a7, a8, a9, a10, a11, a12, a13, a14, a15] 203)) =
      .ok (.tuple #[]) ((w.alloc O).alloc (.cells #[a0, a1, .int .u8 0, .int .u8 0, .int .u8 0, .int .u8 0, .int .u8 0, .int .u8 0, .int .u8 0, .int .u8 0, .int .u8 0, .int .u8 0, .int .u8 0, .int .u8 0, a14, a15] 203)) := by
  have hr := row16 w O #[a0, a1, a2, a3, a4, a5, a6, a7, a8, a9, a10, a11, a12, a13, a14, a15]
  rw [Lib.run_clear_slice _ 127 5 0 (.int .u8 0) Tryz.underlying127 zero5 rfl rfl _ 2 12 c (by omega) (fun j hj => by rw [hr.cell, Array.getElem?_eq_getElem (by simp; omega)]; rfl) (fun j _ => hr.free _)]
  refine congrArg (fun W : World => Result.ok (Value.tuple #[]) W) ?_
  simp only [List.replicate_succ, List.replicate_zero, World.setCells, set16, List.setIfInBounds_toArray, List.set_cons_zero, List.set_cons_succ, Nat.reduceAdd]

set_option maxHeartbeats 1000000 in
theorem clr10 (w : World) (O : Obj) (a0 a1 a2 a3 a4 a5 a6 a7 a8 a9 a10 a11 a12 a13 a14 a15 : Value) (c : Nat) :
    (Builtin.clear_ #[127] 0 #[.slice (some ⟨w.heap.size + 1, 4, none⟩) 10 c]).run Tryz.prog ((w.alloc O).alloc (.cells #[a0, a1, a2, a3, a4, a5, a6, a7, a8, a9, a10, a11, a12, a13, a14, a15] 203)) =
      .ok (.tuple #[]) ((w.alloc O).alloc (.cells #[a0, a1, a2, a3, .int .u8 0, .int .u8 0, .int .u8 0, .int .u8 0, .int .u8 0, .int .u8 0, .int .u8 0, .int .u8 0, .int .u8 0, .int .u8 0, a14, a15] 203)) := by
  have hr := row16 w O #[a0, a1, a2, a3, a4, a5, a6, a7, a8, a9, a10, a11, a12, a13, a14, a15]
  rw [Lib.run_clear_slice _ 127 5 0 (.int .u8 0) Tryz.underlying127 zero5 rfl rfl _ 4 10 c (by omega) (fun j hj => by rw [hr.cell, Array.getElem?_eq_getElem (by simp; omega)]; rfl) (fun j _ => hr.free _)]
  refine congrArg (fun W : World => Result.ok (Value.tuple #[]) W) ?_
  simp only [List.replicate_succ, List.replicate_zero, World.setCells, set16, List.setIfInBounds_toArray, List.set_cons_zero, List.set_cons_succ, Nat.reduceAdd]

def IsAddr6 (p6 : Addr) (e : Ending) : Prop := ∃ hi lo : Int, e = .returned (.tuple #[addrV hi lo p6, .nilIface]) ∧ Own6 hi lo

end Go.Proofs.YtmfdbcfpcifmcaaGreatDoor
