/- Small words on memory that the other texts of this claim use: a block that is known whole, and what a call leaves as it was. -/
import Derived.Test.YtmfdbcfpcifmcaaGreatDoorProg
import Derived.WalkKit
import Derived.WalkSpells
import Derived.WalkLawsBesides
import Derived.Lib.Hide
import Derived.Below
import Derived.Deep.Draws
import Derived.Laws.Rows
import Derived.Laws.OwnMore
namespace Go.Proofs.YtmfdbcfpcifmcaaGreatDoor
open Go.RowKit

/-- What a call leaves below the blocks of its start, as two rules on cells and marks. -/
theorem old_cells {W w1 : World} (hb : Below W.heap.size W w1) : (∀ b o, b < W.heap.size → w1.cell? ⟨b, o, none⟩ = W.cell? ⟨b, o, none⟩) ∧ (∀ b o, b < W.heap.size → w1.frozen? ⟨b, o, none⟩ = W.frozen? ⟨b, o, none⟩) :=
  ⟨fun b o h => hb.cell (p := ⟨b, o, none⟩) h, fun b o h => hb.frozen (p := ⟨b, o, none⟩) h⟩

/-- Two calls, one behind the other. -/
theorem below_next {B : Nat} {w w1 w2 : World} (h : Below B w w1) (k : Below w1.heap.size w1 w2) (hB : B ≤ w1.heap.size) : Below B w w2 := h.trans (k.mono hB)

theorem below_drewN {B : Nat} {a w : World} (h : Below B a w) (n : Nat) : Below B a (w.drewN n) := ⟨h.os, h.tape, h.output, h.size, h.block⟩

/-- Block g holds just these cells, of elements of type t, and may be written. -/
def Row (w : World) (g : Nat) (t : TypeId) (cs : Array Value) : Prop := w.heap[g]? = some (.cells cs t (0, 0))

namespace Row
variable {w w' : World} {g : Nat} {t : TypeId} {cs : Array Value}
theorem lt (h : Row w g t cs) : g < w.heap.size := by
  unfold Row at h
  rcases Nat.lt_or_ge g w.heap.size with hl | hl
  · exact hl
  · rw [Array.getElem?_eq_none hl] at h
    cases h
theorem cell (h : Row w g t cs) (i : Nat) : w.cell? ⟨g, i, none⟩ = cs[i]? := cell_of_row w g i cs t (0, 0) h
theorem free (h : Row w g t cs) (i : Nat) : w.frozen? ⟨g, i, none⟩ = false := by
  unfold Row at h
  simp [World.frozen?, h]
theorem new (w : World) (t : TypeId) (cs : Array Value) : Row (w.alloc (.cells cs t)) w.heap.size t cs := heap_alloc_new w _
theorem drew (h : Row w g t cs) : Row w.drew g t cs := h
theorem drewN (h : Row w g t cs) (n : Nat) : Row (w.drewN n) g t cs := h
theorem alloc (h : Row w g t cs) (o : Obj) : Row (w.alloc o) g t cs := (Below.heap_alloc w o g h.lt).trans h
theorem set (h : Row w g t cs) (i : Nat) (u : Value) : Row (w.setCell ⟨g, i, none⟩ u) g t (cs.setIfInBounds i u) := by
  unfold Row at h ⊢
  simp [World.setCell, Array.getElem?_modify, h]
theorem far (h : Row w g t cs) {p : Addr} (hp : g ≠ p.block) (u : Value) : Row (w.setCell p u) g t cs := (Below.heap_setCell w p u g hp).trans h
theorem below {B : Nat} (h : Row w g t cs) (hb : Below B w w') (hg : g < B) : Row w' g t cs := (hb.block g hg).trans h
theorem grown {row : Option Nat} (h : Row w g t cs) (hb : w.grownBy w' row) (hg : some g ≠ row) : Row w' g t cs := (hb.block g h.lt hg).trans h
end Row

theorem cell_far {w : World} {a : Addr} {v : Value} (h : w.cell? a = some v) {g : Nat} (hne : a.block ≠ g) (i : Nat) (u : Value) : (w.setCell ⟨g, i, none⟩ u).cell? a = some v :=
  (World.cell?_of_block (Below.heap_setCell w ⟨g, i, none⟩ u a.block hne)).trans h
theorem cell_other {w : World} {a b : Addr} {v : Value} (h : w.cell? a = some v) (hne : b ≠ a) (u : Value) : (w.setCell b u).cell? a = some v := (World.cell?_setCell_other w b a u hne).trans h
theorem some_ne {a b : Nat} (h : a ≠ b) : some a ≠ some b := fun e => h (Option.some.inj e)
theorem some_ge {a b : Nat} (h : b ≤ a) : ∀ k, some a = some k → b ≤ k := fun _ e => Option.some.inj e ▸ h
theorem below_al {B : Nat} {w W : World} (h : Below B w W) (hB : B ≤ w.heap.size) (o : Obj) : Below B w (W.alloc o) := h.alloc (Nat.le_trans hB h.size) o
theorem below_st {B : Nat} {w W : World} (h : Below B w W) {g : Nat} (hB : B ≤ g) (i : Nat) (u : Value) : Below B w (W.setCell ⟨g, i, none⟩ u) := h.setCell (p := ⟨g, i, none⟩) hB u
theorem i64_eq {a b : Int} (h : a = b) : Value.int .i64 a = Value.int .i64 b := by rw [h]
theorem byte_eq (s : ByteArray) (k : Nat) (_h : k < s.size) (_h2 : k < s.data.toList.length) : s[k] = s.data.toList[k] := by
  simp [ByteArray.getElem_eq_getElem_data]
theorem byte_lt (c : UInt8) : (c.toNat : Int) ≤ 255 := by have := c.toNat_lt; omega

/-! Only one block, and what is new, has turned. -/
theorem only_drew {a w : World} {row : Option Nat} (h : a.grownBy w row) : a.grownBy w.drew row := ⟨h.os, h.tape, h.output, h.size, h.block⟩
theorem only_drewN {a w : World} {row : Option Nat} (h : a.grownBy w row) (n : Nat) : a.grownBy (w.drewN n) row := ⟨h.os, h.tape, h.output, h.size, h.block⟩
theorem only_alloc {a w : World} {row : Option Nat} (h : a.grownBy w row) (o : Obj) : a.grownBy (w.alloc o) row :=
  ⟨h.os, h.tape, h.output, Nat.le_trans h.size (by simp), fun i hi hne => (Below.heap_alloc w o i (Nat.lt_of_lt_of_le hi h.size)).trans (h.block i hi hne)⟩
theorem only_set {a w : World} {g : Nat} (h : a.grownBy w (some g)) (i : Nat) (u : Value) : a.grownBy (w.setCell ⟨g, i, none⟩ u) (some g) :=
  ⟨h.os, h.tape, h.output, by simpa [World.setCell] using h.size, fun j hj hne => (Below.heap_setCell w ⟨g, i, none⟩ u j (fun e => hne (by rw [e]))).trans (h.block j hj hne)⟩
theorem only_below {a w w1 : World} {row : Option Nat} (h : a.grownBy w row) (hb : Below w.heap.size w w1) : a.grownBy w1 row :=
  ⟨hb.os.trans h.os, hb.tape.trans h.tape, hb.output.trans h.output, Nat.le_trans h.size hb.size, fun i hi hne => (hb.block i (Nat.lt_of_lt_of_le hi h.size)).trans (h.block i hi hne)⟩
end Go.Proofs.YtmfdbcfpcifmcaaGreatDoor
