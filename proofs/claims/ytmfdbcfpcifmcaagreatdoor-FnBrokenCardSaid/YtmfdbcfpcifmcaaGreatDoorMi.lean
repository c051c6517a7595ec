/- impl.Parse, where the package's reader says no. | A text that lacks one of the first eight words of a candidate is none. (Merged by merge2.py out of ParseF, SevenF.) -/
import Derived.Test.YtmfdbcfpcifmcaaGreatDoorMc
import Derived.Test.YtmfdbcfpcifmcaaGreatDoorPlainC
import Derived.Test.YtmfdbcfpcifmcaaGreatDoorMh
namespace Go.Proofs.YtmfdbcfpcifmcaaGreatDoor
open Go.RowKit

set_option maxRecDepth 100000 in
set_option maxHeartbeats 1000000 in
theorem parseFails (raw : ByteArray) (hU : ∀ W, Calls Tryz.prog 47 #[.string raw] W fun e w' => ∃ v : Value, e = .returned (.tuple #[.nilIface, .iface 132 v]) ∧ Below W.heap.size W w') (w : World) :
    Calls Tryz.prog 25 #[.string raw] w fun e w' => e = .returned (.tuple #[.agg #[.int .i64 0, .int .i64 0, .int .i64 0, .string ⟨#[]⟩, .int .i64 0, .int .u32 0, .string ⟨#[]⟩, .int .i64 0, .slice none 0 0, .slice none 0 0], .bool false]) ∧ Below w.heap.size w w' := by
  have hmf : ∀ (fn : Fn) (first cap : Array Value) (w : World), (Instr.makeFunc fn first cap).run Tryz.prog w = .ok (.func fn first cap) w := fun _ _ _ _ => rfl
  go_enter Tryz.func25, Tryz.ntmps25
  go_wp2_with fail
  obtain ⟨W, hW⟩ : ∃ W, W = (w.alloc (.cells #[.string raw] 9)).alloc (.cells #[.int .i64 0, .int .i64 0, .int .i64 0, .string ⟨#[]⟩, .int .i64 0, .int .u32 0, .string ⟨#[]⟩, .int .i64 0, .slice none 0 0, .slice none 0 0] 26) := ⟨_, rfl⟩
  have r0 : Row W w.heap.size 9 #[.string raw] := hW ▸ (Row.new _ _ _).alloc _
  have r1 : Row W (w.heap.size + 1) 26 #[.int .i64 0, .int .i64 0, .int .i64 0, .string ⟨#[]⟩, .int .i64 0, .int .u32 0, .string ⟨#[]⟩, .int .i64 0, .slice none 0 0, .slice none 0 0] := by
    have h := Row.new (w.alloc (.cells #[.string raw] 9)) 26 #[.int .i64 0, .int .i64 0, .int .i64 0, .string ⟨#[]⟩, .int .i64 0, .int .u32 0, .string ⟨#[]⟩, .int .i64 0, .slice none 0 0, .slice none 0 0]
    rw [hW]
    simpa using h
  have hsz : W.heap.size = w.heap.size + 2 := by rw [hW]; simp
  have hB : Below w.heap.size w W := by
    rw [hW]
    exact (((Below.refl _ _).alloc (Nat.le_refl _) _).alloc (by simp) _)
  rw [← hW]
  clear hW
  have hBt : Below w.heap.size w (W.alloc (.cells #[.bool false] 4)) := hB.alloc (by omega) _
  have hszt : (W.alloc (.cells #[.bool false] 4)).heap.size = w.heap.size + 3 := by simp [hsz]
  have hbody : Calls Tryz.prog 46 #[.pointer (some ⟨w.heap.size, 0, none⟩), .pointer (some ⟨w.heap.size + 1, 0, none⟩)] (W.alloc (.cells #[.bool false] 4)) fun e w' => ∃ b, e = .returned (.bool b) ∧ Row w' W.heap.size 4 #[.bool false] ∧ (b = false ∧ Row w' (w.heap.size + 1) 26 #[.int .i64 0, .int .i64 0, .int .i64 0, .string ⟨#[]⟩, .int .i64 0, .int .u32 0, .string ⟨#[]⟩, .int .i64 0, .slice none 0 0, .slice none 0 0] ∧ Below w.heap.size w w') := by
    have q0 := r0.alloc (.cells #[.bool false] 4)
    have q1 := r1.alloc (.cells #[.bool false] 4)
    have qt := Row.new W 4 #[.bool false]
    generalize W.alloc (.cells #[.bool false] 4) = V at *
    have c0 : V.cell? ⟨w.heap.size, 0, none⟩ = some (.string raw) := q0.cell 0
    go_enter Tryz.func46, Tryz.ntmps46
    go_wp2_with fail
    refine (hU _).mono ?_
    rintro e w' ⟨v, rfl, hb⟩
    go_wp2_with fail
    go_ret
    exact ⟨false, rfl, qt.below hb qt.lt, rfl, q1.below hb q1.lt, hBt.trans (hb.mono (by omega))⟩
  refine (try_ok 46 _ (fun _ => by kernel_rfl) (fun b w' => b = false ∧ Row w' (w.heap.size + 1) 26 #[.int .i64 0, .int .i64 0, .int .i64 0, .string ⟨#[]⟩, .int .i64 0, .int .u32 0, .string ⟨#[]⟩, .int .i64 0, .slice none 0 0, .slice none 0 0] ∧ Below w.heap.size w w') W hbody).mono ?_
  rintro e w' ⟨q, w1, rfl, ⟨rfl, z1, zB⟩, hw'⟩
  have u1 : Row w' (w.heap.size + 1) 26 #[.int .i64 0, .int .i64 0, .int .i64 0, .string ⟨#[]⟩, .int .i64 0, .int .u32 0, .string ⟨#[]⟩, .int .i64 0, .slice none 0 0, .slice none 0 0] := hw' ▸ z1.far (p := ⟨W.heap.size, 0, none⟩) (by simp only; omega) (.bool false)
  have hBf : Below w.heap.size w w' := hw' ▸ below_st zB (by omega) 0 (.bool false)
  clear hbody z1 zB hw' hBt hB r0 r1
  have d0 : w'.cell? ⟨w.heap.size + 1, 0, none⟩ = some (.int .i64 0) := u1.cell 0
  have d1 : w'.cell? ⟨w.heap.size + 1, 1, none⟩ = some (.int .i64 0) := u1.cell 1
  have d2 : w'.cell? ⟨w.heap.size + 1, 2, none⟩ = some (.int .i64 0) := u1.cell 2
  have d3 : w'.cell? ⟨w.heap.size + 1, 3, none⟩ = some (.string ⟨#[]⟩) := u1.cell 3
  have d4 : w'.cell? ⟨w.heap.size + 1, 4, none⟩ = some (.int .i64 0) := u1.cell 4
  have d5 : w'.cell? ⟨w.heap.size + 1, 5, none⟩ = some (.int .u32 0) := u1.cell 5
  have d6 : w'.cell? ⟨w.heap.size + 1, 6, none⟩ = some (.string ⟨#[]⟩) := u1.cell 6
  have d7 : w'.cell? ⟨w.heap.size + 1, 7, none⟩ = some (.int .i64 0) := u1.cell 7
  have d8 : w'.cell? ⟨w.heap.size + 1, 8, none⟩ = some (.slice none 0 0) := u1.cell 8
  have d9 : w'.cell? ⟨w.heap.size + 1, 9, none⟩ = some (.slice none 0 0) := u1.cell 9
  have f0 := u1.free 0
  have f1 := u1.free 1
  have f2 := u1.free 2
  have f3 := u1.free 3
  have f4 := u1.free 4
  have f5 := u1.free 5
  have f6 := u1.free 6
  have f7 := u1.free 7
  have f8 := u1.free 8
  have f9 := u1.free 9
  have HU := Lib.hid u1
  have HBf := Lib.hid hBf
  clear u1 hBf
  go_wp2_with fail
  have hZ := tenSet HU.out (.int .i64 0) (.int .i64 0) (.int .i64 0) (.string ⟨#[]⟩) (.int .i64 0) (.int .u32 0) (.string ⟨#[]⟩) (.int .i64 0) (.slice none 0 0) (.slice none 0 0)
  have hBZ := tenBelow (g := w.heap.size + 1) HBf.out (by omega) (.int .i64 0) (.int .i64 0) (.int .i64 0) (.string ⟨#[]⟩) (.int .i64 0) (.int .u32 0) (.string ⟨#[]⟩) (.int .i64 0) (.slice none 0 0) (.slice none 0 0)
  clear d0 d1 d2 d3 d4 d5 d6 d7 d8 d9 f0 f1 f2 f3 f4 f5 f6 f7 f8 f9 HU HBf
  generalize ((((((((((w'.setCell ⟨w.heap.size + 1, 0, none⟩ (.int .i64 0)).setCell ⟨w.heap.size + 1, 1, none⟩ (.int .i64 0)).setCell ⟨w.heap.size + 1, 2, none⟩ (.int .i64 0)).setCell ⟨w.heap.size + 1, 3, none⟩ (.string ⟨#[]⟩)).setCell ⟨w.heap.size + 1, 4, none⟩ (.int .i64 0)).setCell ⟨w.heap.size + 1, 5, none⟩ (.int .u32 0)).setCell ⟨w.heap.size + 1, 6, none⟩ (.string ⟨#[]⟩)).setCell ⟨w.heap.size + 1, 7, none⟩ (.int .i64 0)).setCell ⟨w.heap.size + 1, 8, none⟩ (.slice none 0 0)).setCell ⟨w.heap.size + 1, 9, none⟩ (.slice none 0 0)) = Z at hZ hBZ ⊢
  have z0 : Z.cell? ⟨w.heap.size + 1, 0, none⟩ = some (.int .i64 0) := hZ.cell 0
  have z1 : Z.cell? ⟨w.heap.size + 1, 1, none⟩ = some (.int .i64 0) := hZ.cell 1
  have z2 : Z.cell? ⟨w.heap.size + 1, 2, none⟩ = some (.int .i64 0) := hZ.cell 2
  have z3 : Z.cell? ⟨w.heap.size + 1, 3, none⟩ = some (.string ⟨#[]⟩) := hZ.cell 3
  have z4 : Z.cell? ⟨w.heap.size + 1, 4, none⟩ = some (.int .i64 0) := hZ.cell 4
  have z5 : Z.cell? ⟨w.heap.size + 1, 5, none⟩ = some (.int .u32 0) := hZ.cell 5
  have z6 : Z.cell? ⟨w.heap.size + 1, 6, none⟩ = some (.string ⟨#[]⟩) := hZ.cell 6
  have z7 : Z.cell? ⟨w.heap.size + 1, 7, none⟩ = some (.int .i64 0) := hZ.cell 7
  have z8 : Z.cell? ⟨w.heap.size + 1, 8, none⟩ = some (.slice none 0 0) := hZ.cell 8
  have z9 : Z.cell? ⟨w.heap.size + 1, 9, none⟩ = some (.slice none 0 0) := hZ.cell 9
  refine bodyPost_ret (v := .tuple #[.agg #[.int .i64 0, .int .i64 0, .int .i64 0, .string ⟨#[]⟩, .int .i64 0, .int .u32 0, .string ⟨#[]⟩, .int .i64 0, .slice none 0 0, .slice none 0 0], .bool false]) ?h1 rfl ⟨rfl, hBZ⟩
  case h1 => simp [results, Tryz.results25, go_sem, z0, z1, z2, z3, z4, z5, z6, z7, z8, z9]
end Go.Proofs.YtmfdbcfpcifmcaaGreatDoor

namespace Go.Proofs.YtmfdbcfpcifmcaaGreatDoor
open Go.RowKit

theorem ext_ext (t : ByteArray) (p a b : Nat) (hb : b ≤ p) : (t.extract 0 p).extract a b = t.extract a b := by
  apply ByteArray.ext
  simp only [ByteArray.data_extract, Array.extract_extract]
  congr 1 <;> omega

theorem tok_end (raw : ByteArray) : Tok raw raw.size raw.size := ⟨Nat.le_refl _, Nat.le_refl _, fun _ _ h1 h2 => absurd h2 (by omega), fun h => absurd h (Nat.lt_irrefl _)⟩

set_option maxRecDepth 100000 in
set_option maxHeartbeats 400000 in
theorem unmNone (w : World) : Calls Tryz.prog 47 #[.string ⟨#[]⟩] w fun e w' => ∃ v : Value, e = .returned (.tuple #[.nilIface, .iface 132 v]) ∧ Below w.heap.size w w' := by
  have hp : Lib.trimPrefix (⟨#[]⟩ : ByteArray).data.toList candS = (⟨#[]⟩ : ByteArray).data.toList := by decide
  have hR := fun W => readChar ⟨#[]⟩ 0 0 (tok_end ⟨#[]⟩) (fun k h _ h2 => absurd h2 (by omega)) (by omega) (by decide) W
  have he : (⟨#[]⟩ : ByteArray).extract 0 0 = ⟨#[]⟩ := by decide
  have hn : nextPos ⟨#[]⟩ 0 = 0 := by decide
  rw [he, hn] at hR
  have HR := Lib.hid hR
  clear hR he hn
  go_enter Tryz.func47, Tryz.ntmps47
  go_wp2_with fail
  refine (trimNone _ hp _).mono ?_
  rintro e w' ⟨rfl, rfl⟩
  clear hp
  go_wp2_with fail
  refine (HR.out _).mono ?_
  rintro e w1 ⟨rfl, hb⟩
  go_wp2_with fail
  go_ret2
  exact ⟨_, rfl, hb⟩

variable {t : ByteArray} {s e : Nat → Nat} {comp prio port : Nat}

theorem Seven.r0 (h : Seven t s e comp prio port) (ht : t.size ≤ 4611686018427387904) (n : Nat) (hn : n < 7) (q : Nat) (hq : nextPos (t.extract 0 (e n)) (e 0) = q) (W : World) :
    Calls Tryz.prog 64 #[.string (t.extract 0 (e n)), .int .i64 0, .int .i64 32] W fun en w' => en = .returned (.tuple #[.string ((t.extract 0 (e n)).extract 0 (e 0)), .int .i64 (q : Int), .nilIface]) ∧ Below W.heap.size W w' := by
  have hsz := h.size_n n hn
  have h6 := h.size
  have hen := h.end_le n 6 (by omega) (by omega)
  have he0 := h.end_le 0 n (by omega) hn
  have hl0 := h.len0
  have htk := h.tok n 0 hn (by omega)
  rw [h.s0] at htk
  have := readChar (t.extract 0 (e n)) 0 (e 0) htk (fun j hj _ h2 => by
    rw [bt_at, bt_extract t (e n) j (by omega) (by omega)]
    exact h.ch j h2) (by omega) (by omega) W
  rw [hq] at this
  exact this
theorem Seven.rs (h : Seven t s e comp prio port) (ht : t.size ≤ 4611686018427387904) (n k : Nat) (hn : n < 7) (hk : k ≤ n) (q : Nat) (hq : nextPos (t.extract 0 (e n)) (e k) = q) (W : World) :
    Calls Tryz.prog 66 #[.string (t.extract 0 (e n)), .int .i64 (s k : Int)] W fun en w' => en = .returned (.tuple #[.string ((t.extract 0 (e n)).extract (s k) (e k)), .int .i64 (q : Int)]) ∧ Below W.heap.size W w' := by
  have hsz := h.size_n n hn
  have h6 := h.size
  have hen := h.end_le n 6 (by omega) (by omega)
  have := readStr (t.extract 0 (e n)) (s k) (e k) (h.tok n k hn hk) (by omega) W
  rw [hq] at this
  exact this
theorem Seven.r1 (h : Seven t s e comp prio port) (ht : t.size ≤ 4611686018427387904) (n : Nat) (hn : n < 7) (hk : 1 ≤ n) (q : Nat) (hq : nextPos (t.extract 0 (e n)) (e 1) = q) (W : World) :
    Calls Tryz.prog 65 #[.string (t.extract 0 (e n)), .int .i64 (s 1 : Int)] W fun en w' => en = .returned (.tuple #[.int .u16 (comp : Int), .int .i64 (q : Int), .nilIface]) ∧ Below W.heap.size W w' := by
  have hsz := h.size_n n hn
  have h6 := h.size
  have hen := h.end_le n 6 (by omega) (by omega)
  have := readComp (t.extract 0 (e n)) (s 1) (e 1) (h.digits n 1 5 hn hk (.inl rfl) h.len1) comp (by rw [h.num n 1 hn hk, h.num1]) h.hcomp (by omega) W
  rw [hq] at this
  exact this
theorem Seven.r3 (h : Seven t s e comp prio port) (ht : t.size ≤ 4611686018427387904) (n : Nat) (hn : n < 7) (hk : 3 ≤ n) (q : Nat) (hq : nextPos (t.extract 0 (e n)) (e 3) = q) (W : World) :
    Calls Tryz.prog 67 #[.string (t.extract 0 (e n)), .int .i64 (s 3 : Int)] W fun en w' => en = .returned (.tuple #[.int .u32 (prio : Int), .int .i64 (q : Int), .nilIface]) ∧ Below W.heap.size W w' := by
  have hsz := h.size_n n hn
  have h6 := h.size
  have hen := h.end_le n 6 (by omega) (by omega)
  have := readPrio (t.extract 0 (e n)) (s 3) (e 3) (h.digits n 3 10 hn hk (.inr (.inl rfl)) h.len3) prio (by rw [h.num n 3 hn hk, h.num3]) h.hprio (by omega) W
  rw [hq] at this
  exact this
theorem Seven.r5 (h : Seven t s e comp prio port) (ht : t.size ≤ 4611686018427387904) (n : Nat) (hn : n < 7) (hk : 5 ≤ n) (q : Nat) (hq : nextPos (t.extract 0 (e n)) (e 5) = q) (W : World) :
    Calls Tryz.prog 69 #[.string (t.extract 0 (e n)), .int .i64 (s 5 : Int)] W fun en w' => en = .returned (.tuple #[.int .i64 (port : Int), .int .i64 (q : Int), .nilIface]) ∧ Below W.heap.size W w' := by
  have hsz := h.size_n n hn
  have h6 := h.size
  have hen := h.end_le n 6 (by omega) (by omega)
  have := readPort (t.extract 0 (e n)) (s 5) (e 5) (h.digits n 5 5 hn hk (.inr (.inr rfl)) h.len5) port (by rw [h.num n 5 hn hk, h.num5]) h.hport (by omega) W
  rw [hq] at this
  exact this
theorem Seven.rz (h : Seven t s e comp prio port) (ht : t.size ≤ 4611686018427387904) (n : Nat) (hn : n < 7) (hk : 4 ≤ n) (W : World) :
    Calls Tryz.prog 68 #[.string ((t.extract 0 (e n)).extract (s 4) (e 4))] W fun en w' => en = .returned (.string ((t.extract 0 (e n)).extract (s 4) (e 4))) ∧ W = w' := by
  have h6 := h.size
  have hen := h.end_le n 6 (by omega) (by omega)
  have he4 := h.end_le 4 n hk hn
  rw [ext_ext t _ _ _ he4]
  have hxs : (t.extract (s 4) (e 4)).size = e 4 - s 4 := by simp [ByteArray.size_extract]; omega
  refine Go.Proofs.YtmfdbcfpcifmcaaGreatDoor.noCut _ (by unfold maxLen; omega) (fun i hi => ?_) W
  have hg : (t.extract (s 4) (e 4))[i] = t[s 4 + i]'(by omega) := by simp [ByteArray.getElem_extract]
  rw [hg, bt_at]
  exact h.noCut (s 4 + i) (by omega) (by omega)
theorem Seven.w0 (h : Seven t s e comp prio port) (n : Nat) (hn : n < 7) : 0 < ((t.extract 0 (e n)).extract 0 (e 0)).size := by
  have hsz := h.size_n n hn
  have he0 := h.end_le 0 n (by omega) hn
  have hl := h.le 0 (by omega)
  rw [h.s0] at hl
  rw [ByteArray.size_extract]
  omega

theorem Seven.fails (h : Seven t s e comp prio port) (ht : t.size ≤ 4611686018427387904) (n : Nat) (hn : n < 7) (w : World) :
    Calls Tryz.prog 47 #[.string (t.extract 0 (e n))] w fun en w' => ∃ v : Value, en = .returned (.tuple #[.nilIface, .iface 132 v]) ∧ Below w.heap.size w w' := by
  have hpz := h.noPrefix n hn
  have hw0 := h.w0 n hn
  have hpe := h.posEnd n hn
  have hc : n = 0 ∨ n = 1 ∨ n = 2 ∨ n = 3 ∨ n = 4 ∨ n = 5 ∨ n = 6 := by omega
  rcases hc with rfl | rfl | rfl | rfl | rfl | rfl | rfl
  · exact unm0 _ _ _ hpz (h.r0 ht 0 hn _ hpe) hw0 rfl w
  · obtain ⟨p0, l0⟩ := h.pos 1 0 hn (by omega)
    exact unm1 _ _ _ _ _ hpz (h.r0 ht 1 hn _ p0) (h.r1 ht 1 hn (by omega) _ hpe) hw0 l0 rfl w
  · obtain ⟨p0, l0⟩ := h.pos 2 0 hn (by omega)
    obtain ⟨p1, l1⟩ := h.pos 2 1 hn (by omega)
    exact unm2 _ _ _ _ _ _ _ hpz (h.r0 ht 2 hn _ p0) (h.r1 ht 2 hn (by omega) _ p1) (h.rs ht 2 2 hn (by omega) _ hpe) hw0 l0 l1 rfl w
  · obtain ⟨p0, l0⟩ := h.pos 3 0 hn (by omega)
    obtain ⟨p1, l1⟩ := h.pos 3 1 hn (by omega)
    obtain ⟨p2, l2⟩ := h.pos 3 2 hn (by omega)
    exact unm3 _ _ _ _ _ _ _ _ _ hpz (h.r0 ht 3 hn _ p0) (h.r1 ht 3 hn (by omega) _ p1) (h.rs ht 3 2 hn (by omega) _ p2) (h.r3 ht 3 hn (by omega) _ hpe) hw0 l0 l1 l2 rfl w
  · obtain ⟨p0, l0⟩ := h.pos 4 0 hn (by omega)
    obtain ⟨p1, l1⟩ := h.pos 4 1 hn (by omega)
    obtain ⟨p2, l2⟩ := h.pos 4 2 hn (by omega)
    obtain ⟨p3, l3⟩ := h.pos 4 3 hn (by omega)
    exact unm4 _ _ _ _ _ _ _ _ _ _ _ hpz (h.r0 ht 4 hn _ p0) (h.r1 ht 4 hn (by omega) _ p1) (h.rs ht 4 2 hn (by omega) _ p2) (h.r3 ht 4 hn (by omega) _ p3) (h.rs ht 4 4 hn (by omega) _ hpe) hw0 l0 l1 l2 l3 rfl (h.rz ht 4 hn (by omega)) w
  · obtain ⟨p0, l0⟩ := h.pos 5 0 hn (by omega)
    obtain ⟨p1, l1⟩ := h.pos 5 1 hn (by omega)
    obtain ⟨p2, l2⟩ := h.pos 5 2 hn (by omega)
    obtain ⟨p3, l3⟩ := h.pos 5 3 hn (by omega)
    obtain ⟨p4, l4⟩ := h.pos 5 4 hn (by omega)
    have hsz := h.size_n 5 hn
    have h6 := h.size
    have hen := h.end_le 5 6 (by omega) (by omega)
    exact unm5 _ _ _ _ _ _ _ _ _ _ _ _ _ _ _ hpz (h.r0 ht 5 hn _ p0) (h.r1 ht 5 hn (by omega) _ p1) (h.rs ht 5 2 hn (by omega) _ p2) (h.r3 ht 5 hn (by omega) _ p3) (h.rs ht 5 4 hn (by omega) _ p4) (h.r5 ht 5 hn (by omega) _ hpe)
      (fun W => readStr _ _ _ (tok_end _) (by omega) W) hw0 l0 l1 l2 l3 l4 (h.rz ht 5 hn (by omega)) (by apply ByteArray.ext; simp) w
  · obtain ⟨p0, l0⟩ := h.pos 6 0 hn (by omega)
    obtain ⟨p1, l1⟩ := h.pos 6 1 hn (by omega)
    obtain ⟨p2, l2⟩ := h.pos 6 2 hn (by omega)
    obtain ⟨p3, l3⟩ := h.pos 6 3 hn (by omega)
    obtain ⟨p4, l4⟩ := h.pos 6 4 hn (by omega)
    obtain ⟨p5, l5⟩ := h.pos 6 5 hn (by omega)
    exact unm6 _ _ _ _ _ _ _ _ _ _ _ _ _ _ _ hpz (h.r0 ht 6 hn _ p0) (h.r1 ht 6 hn (by omega) _ p1) (h.rs ht 6 2 hn (by omega) _ p2) (h.r3 ht 6 hn (by omega) _ p3) (h.rs ht 6 4 hn (by omega) _ p4) (h.r5 ht 6 hn (by omega) _ p5)
      (h.rs ht 6 6 hn (by omega) _ hpe) hw0 l0 l1 l2 l3 l4 l5 rfl (h.rz ht 6 hn (by omega)) (by rw [ext_ext t _ _ _ (Nat.le_refl _)]; exact h.typ) w
end Go.Proofs.YtmfdbcfpcifmcaaGreatDoor
