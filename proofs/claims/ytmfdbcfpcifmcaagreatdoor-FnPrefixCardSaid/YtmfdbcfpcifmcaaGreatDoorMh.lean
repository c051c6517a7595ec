/- The readers of a candidate's text: words parted by spaces. | The readers of numbers. | spec.First: the first words of a text. | The first seven words of a candidate's text, and what the readers make of them. | UnmarshalCandidate, at a text of fewer than eight words: it answers an error. (Written by mkunm.py.) (Merged by merge2.py out of Read, ReadD, FirstW, Seven, Unm.) -/
import Derived.Test.YtmfdbcfpcifmcaaGreatDoorMa
import Derived.Laws.RangeString
import Derived.Laws.RangeAny
import Derived.LoopTactic
import Derived.Lib.Strings
import Derived.Test.YtmfdbcfpcifmcaaGreatDoorMf
namespace Go.Proofs.YtmfdbcfpcifmcaaGreatDoor
open Go.RowKit

/-- The word of raw from place s to place e: letters of ASCII without spaces, then the end or a space. -/
structure Tok (raw : ByteArray) (s e : Nat) : Prop where
  le : s ≤ e
  size : e ≤ raw.size
  low : ∀ k (h : k < raw.size), s ≤ k → k < e → (raw[k]'h).toNat < 128 ∧ (raw[k]'h).toNat ≠ 32
  stop : ∀ h : e < raw.size, (raw[e]'h).toNat = 32
/-- Where the next word begins. -/
def nextPos (raw : ByteArray) (e : Nat) : Nat := if e < raw.size then e + 1 else raw.size

structure NPos (raw : ByteArray) (e np : Nat) : Prop where
  eq : np = nextPos raw e
theorem npos_at (raw : ByteArray) (e : Nat) : ∃ np, NPos raw e np := ⟨_, ⟨rfl⟩⟩
theorem NPos.mid {raw : ByteArray} {e np : Nat} (h : NPos raw e np) (he : e < raw.size) : ((np : Nat) : Int) = (e : Int) + 1 := by
  rw [h.eq, nextPos, if_pos he]
  rfl
theorem NPos.last {raw : ByteArray} {e np : Nat} (h : NPos raw e np) (he : ¬ e < raw.size) : ((np : Nat) : Int) = (raw.size : Int) := by
  rw [h.eq, nextPos, if_neg he]
theorem ext_size (raw : ByteArray) (s : Nat) : (raw.extract s raw.size).size = raw.size - s := by simp [ByteArray.size_extract]
theorem ext_at (raw : ByteArray) (s i : Nat) (h : i < (raw.extract s raw.size).size) : (raw.extract s raw.size)[i]'h = raw[s + i]'(by rw [ext_size] at h; omega) := by
  simp [ByteArray.getElem_extract]

theorem sliceFrom (raw : ByteArray) (s : Nat) (h : s ≤ raw.size) (W : World) : (Instr.slice 9 (.string raw) (some (.int .i64 (s : Int))) none none).run Tryz.prog W = .ok (.string (raw.extract s raw.size)) W := by
  have r := run_slice_string_from_if (P := Tryz.prog) (w := W) 9 raw .i64 (s : Int) Tryz.underlying9
  rw [if_pos (by omega)] at r
  simpa using r
theorem sliceTo (raw : ByteArray) (s e : Nat) (h : s ≤ e) (h2 : e ≤ raw.size) (W : World) : (Instr.slice 9 (.string raw) (some (.int .i64 (s : Int))) (some (.int .i64 (e : Int))) none).run Tryz.prog W = .ok (.string (raw.extract s e)) W := by
  rw [run_slice_string W 9 raw .i64 .i64 _ _ Tryz.underlying9 (by omega) (by omega) (by omega)]
  simp
/-- The rest of raw from place s on. -/
structure SubAt (raw sub : ByteArray) (s : Nat) : Prop where
  size : sub.size = raw.size - s
  byte : ∀ i (h : i < sub.size) (h2 : s + i < raw.size), (sub[i]'h).toNat = (raw[s + i]'h2).toNat
  eq : raw.extract s raw.size = sub
  cut : s ≤ raw.size → ∀ W : World, (Instr.slice 9 (.string raw) (some (.int .i64 (s : Int))) none none).run Tryz.prog W = .ok (.string sub) W
theorem sub_at (raw : ByteArray) (s : Nat) : ∃ sub, SubAt raw sub s := ⟨raw.extract s raw.size, ext_size raw s, fun i h h2 => by rw [ext_at raw s i h], rfl, fun h => sliceFrom raw s h⟩
theorem below_iter (w : World) (s : ByteArray) (p : Nat) : Below w.heap.size w (w.iter s p) := (Below.refl _ _).alloc (Nat.le_refl _) _

set_option maxRecDepth 100000 in
set_option maxHeartbeats 1000000 in
theorem readStr (raw : ByteArray) (s e : Nat) (hT : Tok raw s e) (hs : raw.size ≤ 4611686018427387904) (w : World) :
    Calls Tryz.prog 66 #[.string raw, .int .i64 (s : Int)] w fun en w' => en = .returned (.tuple #[.string (raw.extract s e), .int .i64 ((nextPos raw e : Nat) : Int)]) ∧ Below w.heap.size w w' := by
  have hle := hT.le
  have hse := hT.size
  obtain ⟨np, hnp⟩ := npos_at raw e
  rw [← hnp.eq]
  obtain ⟨sub, hS⟩ := sub_at raw s
  have hsl := hS.cut (by omega)
  have hst := sliceTo raw s e (by omega) (by omega)
  have hz := hS.size
  go_enter Tryz.func66, Tryz.ntmps66
  go_wp2_with fail
  go_loopw [12] (fun _ wr => ∃ i : Nat, wr = w.iter sub i ∧ s + i ≤ e) (fun _ wr => sub.size + 1 - wr.iterPos w.heap.size)
  case atStart => exact ⟨0, rfl, by omega⟩
  case round =>
    obtain ⟨i, rfl, hi⟩ := hrel
    by_cases hlt : s + i < e
    · have hp : i < sub.size := by omega
      have hl := hT.low (s + i) (by omega) (by omega) hlt
      have ha : (sub[i]'hp).toNat < 128 := by rw [hS.byte i hp (by omega)]; exact hl.1
      have hn : (sub[i]'hp).toNat ≠ 32 := by rw [hS.byte i hp (by omega)]; exact hl.2
      have hnx : ∀ ty, (Instr.next (.pointer (some ⟨w.heap.size, 0, none⟩)) true ty).run Tryz.prog (w.iter sub i) = _ := fun ty => run_next_ascii w sub i ty hp ha
      generalize (sub[i]'hp).toNat = c at *
      have hne : ((c : Int) == 32) = false := by simp; omega
      clear hl
      go_wp2_with fail
      go_roundw
      case rel => exact ⟨i + 1, by first | rfl | trivial, by omega⟩
      case measure => simp; omega
    · obtain rfl : e = s + i := by omega
      by_cases hend : s + i < raw.size
      · have hp : i < sub.size := by omega
        have h32 := hT.stop hend
        have hc : (sub[i]'hp).toNat = 32 := by rw [hS.byte i hp (by omega)]; exact h32
        have hnx : ∀ ty, (Instr.next (.pointer (some ⟨w.heap.size, 0, none⟩)) true ty).run Tryz.prog (w.iter sub i) = _ := fun ty => run_next_ascii w sub i ty hp (by omega)
        rw [hc] at hnx
        have hv := hnp.mid hend
        have HV := Lib.hid hv
        clear hv
        go_wp2_with fail
        go_ret2
        exact ⟨by rw [HV.out]; rfl, below_iter _ _ _⟩
      · have hp : ¬ i < sub.size := by omega
        have hnx : ∀ ty, (Instr.next (.pointer (some ⟨w.heap.size, 0, none⟩)) true ty).run Tryz.prog (w.iter sub i) = _ := fun ty => run_next_end w sub i ty hp
        have HV := Lib.hid (hnp.last hend)
        have HX : Hid (raw.extract s (s + i) = sub) := Lib.hid (by rw [show s + i = raw.size by omega]; exact hS.eq)
        go_wp2_with fail
        go_ret2
        exact ⟨by rw [HV.out, HX.out]; rfl, below_iter _ _ _⟩

/-- The byte at place k. -/
def bt (s : ByteArray) (k : Nat) : Nat := (s.data.toList.getD k 0).toNat
theorem bt_at (s : ByteArray) (k : Nat) (h : k < s.size) : (s[k]'h).toNat = bt s k := by
  unfold bt
  rw [List.getD_eq_getElem?_getD, List.getElem?_eq_getElem (by simpa using h)]
  simp
  rfl
def isCh (c : Nat) : Prop := (97 ≤ c ∧ c ≤ 122) ∨ (65 ≤ c ∧ c ≤ 90) ∨ (48 ≤ c ∧ c ≤ 57) ∨ c = 43 ∨ c = 47

set_option maxRecDepth 100000 in
set_option maxHeartbeats 1000000 in
theorem readChar (raw : ByteArray) (s e : Nat) (hT : Tok raw s e) (hw : ∀ k (h : k < raw.size), s ≤ k → k < e → isCh (raw[k]'h).toNat) (h32 : e - s ≤ 32) (hs : raw.size ≤ 4611686018427387904) (w : World) :
    Calls Tryz.prog 64 #[.string raw, .int .i64 (s : Int), .int .i64 32] w fun en w' => en = .returned (.tuple #[.string (raw.extract s e), .int .i64 ((nextPos raw e : Nat) : Int), .nilIface]) ∧ Below w.heap.size w w' := by
  have hle := hT.le
  have hse := hT.size
  obtain ⟨np, hnp⟩ := npos_at raw e
  rw [← hnp.eq]
  obtain ⟨sub, hS⟩ := sub_at raw s
  have hsl := hS.cut (by omega)
  have hst := sliceTo raw s e (by omega) (by omega)
  have hz := hS.size
  go_enter Tryz.func64, Tryz.ntmps64
  go_wp2_with fail
  go_loopw [15] (fun _ wr => ∃ i : Nat, wr = w.iter sub i ∧ s + i ≤ e) (fun _ wr => sub.size + 1 - wr.iterPos w.heap.size)
  case atStart => exact ⟨0, rfl, by omega⟩
  case round =>
    obtain ⟨i, rfl, hi⟩ := hrel
    by_cases hlt : s + i < e
    · have hp : i < sub.size := by omega
      have hl := hT.low (s + i) (by omega) (by omega) hlt
      have hwc := hw (s + i) (by omega) (by omega) hlt
      rw [← hS.byte i hp (by omega)] at hl hwc
      have hnx : ∀ ty, (Instr.next (.pointer (some ⟨w.heap.size, 0, none⟩)) true ty).run Tryz.prog (w.iter sub i) = _ := fun ty => run_next_ascii w sub i ty hp hl.1
      generalize (sub[i]'hp).toNat = c at *
      have hne : ((c : Int) == 32) = false := by simp; omega
      have hil : ((i : Int) == 32) = false := by simp; omega
      clear hl
      rcases hwc with ⟨h1, h2⟩ | ⟨h1, h2⟩ | ⟨h1, h2⟩ | rfl | rfl
      · have j1 : decide ((c : Int) < 65) = false := decide_eq_false (by omega)
        have j2 : decide ((90 : Int) < c) = true := decide_eq_true (by omega)
        have j3 : decide ((c : Int) < 97) = false := decide_eq_false (by omega)
        have j4 : decide ((122 : Int) < c) = false := decide_eq_false (by omega)
        go_wp2_with fail
        go_roundw
        case rel => exact ⟨i + 1, by first | rfl | trivial, by omega⟩
        case measure => simp; omega
      · have j1 : decide ((c : Int) < 65) = false := decide_eq_false (by omega)
        have j2 : decide ((90 : Int) < c) = false := decide_eq_false (by omega)
        go_wp2_with fail
        go_roundw
        case rel => exact ⟨i + 1, by first | rfl | trivial, by omega⟩
        case measure => simp; omega
      · have j1 : decide ((c : Int) < 65) = true := decide_eq_true (by omega)
        have j3 : decide ((c : Int) < 97) = true := decide_eq_true (by omega)
        have j5 : decide ((c : Int) < 48) = false := decide_eq_false (by omega)
        have j6 : decide ((57 : Int) < c) = false := decide_eq_false (by omega)
        go_wp2_with fail
        go_roundw
        case rel => exact ⟨i + 1, by first | rfl | trivial, by omega⟩
        case measure => simp; omega
      · go_wp2_with fail
        go_roundw
        case rel => exact ⟨i + 1, by first | rfl | trivial, by omega⟩
        case measure => simp; omega
      · go_wp2_with fail
        go_roundw
        case rel => exact ⟨i + 1, by first | rfl | trivial, by omega⟩
        case measure => simp; omega
    · obtain rfl : e = s + i := by omega
      by_cases hend : s + i < raw.size
      · have hp : i < sub.size := by omega
        have h32 := hT.stop hend
        have hc : (sub[i]'hp).toNat = 32 := by rw [hS.byte i hp (by omega)]; exact h32
        have hnx : ∀ ty, (Instr.next (.pointer (some ⟨w.heap.size, 0, none⟩)) true ty).run Tryz.prog (w.iter sub i) = _ := fun ty => run_next_ascii w sub i ty hp (by omega)
        rw [hc] at hnx
        have HV := Lib.hid (hnp.mid hend)
        go_wp2_with fail
        refine bodyPost_ret (v := .tuple #[.string (raw.extract s (s + i)), .int .i64 ((s : Int) + i + 1), .nilIface]) ?h1 rfl ⟨by rw [HV.out]; rfl, below_iter _ _ _⟩
        case h1 => simp [results, Tryz.results64, go_sem]
      · have hp : ¬ i < sub.size := by omega
        have hnx : ∀ ty, (Instr.next (.pointer (some ⟨w.heap.size, 0, none⟩)) true ty).run Tryz.prog (w.iter sub i) = _ := fun ty => run_next_end w sub i ty hp
        have HV := Lib.hid (hnp.last hend)
        have HX : Hid (raw.extract s (s + i) = sub) := Lib.hid (by rw [show s + i = raw.size by omega]; exact hS.eq)
        go_wp2_with fail
        refine bodyPost_ret (v := .tuple #[.string sub, .int .i64 (raw.size : Int), .nilIface]) ?h2 rfl ⟨by rw [HV.out, HX.out], below_iter _ _ _⟩
        case h2 => simp [results, Tryz.results64, go_sem]

/-- The number that the digits from place s on make. -/
def numTo (raw : ByteArray) (s : Nat) : Nat → Nat
  | 0 => 0
  | i + 1 => numTo raw s i * 10 + (bt raw (s + i) - 48)
structure NumIs (raw : ByteArray) (s i v : Nat) : Prop where
  eq : v = numTo raw s i
theorem numTo_lt (raw : ByteArray) (s : Nat) (hd : ∀ k, bt raw (s + k) - 48 ≤ 9) (i : Nat) : numTo raw s i < 10 ^ i := by
  induction i with
  | zero => simp [numTo]
  | succ i ih =>
    have := hd i
    rw [Nat.pow_succ]
    show numTo raw s i * 10 + (bt raw (s + i) - 48) < _
    omega
end Go.Proofs.YtmfdbcfpcifmcaaGreatDoor

namespace Go.Proofs.YtmfdbcfpcifmcaaGreatDoor
open Go.RowKit

/-- The word is one of digits, at most L of them. -/
structure Digits (raw : ByteArray) (s e L : Nat) : Prop where
  tok : Tok raw s e
  dig : ∀ k (h : k < raw.size), s ≤ k → k < e → 48 ≤ (raw[k]'h).toNat ∧ (raw[k]'h).toNat ≤ 57
  len : e - s ≤ L
theorem Digits.num_lt {raw : ByteArray} {s e L : Nat} (h : Digits raw s e L) (i : Nat) (hi : s + i ≤ e) : numTo raw s i < 10 ^ i := by
  induction i with
  | zero => simp [numTo]
  | succ i ih =>
    have hsz := h.tok.size
    have hd := h.dig (s + i) (by omega) (by omega) (by omega)
    rw [bt_at] at hd
    rw [Nat.pow_succ]
    have := ih (by omega)
    show numTo raw s i * 10 + (bt raw (s + i) - 48) < _
    omega

set_option maxRecDepth 100000 in
set_option maxHeartbeats 1000000 in
theorem readDigit (raw : ByteArray) (s e L : Nat) (hD : Digits raw s e L) (hL : L ≤ 10) (hs : raw.size ≤ 4611686018427387904) (w : World) :
    Calls Tryz.prog 84 #[.string raw, .int .i64 (s : Int), .int .i64 (L : Int)] w fun en w' => en = .returned (.tuple #[.int .u64 ((numTo raw s (e - s) : Nat) : Int), .int .i64 ((nextPos raw e : Nat) : Int), .nilIface]) ∧ Below w.heap.size w w' := by
  have hT := hD.tok
  have hle := hT.le
  have hse := hT.size
  have hlen := hD.len
  obtain ⟨np, hnp⟩ := npos_at raw e
  rw [← hnp.eq]
  obtain ⟨vf, hvf⟩ : ∃ vf, NumIs raw s (e - s) vf := ⟨_, ⟨rfl⟩⟩
  rw [← hvf.eq]
  obtain ⟨sub, hS⟩ := sub_at raw s
  have hsl := hS.cut (by omega)
  have hz := hS.size
  go_enter Tryz.func84, Tryz.ntmps84
  go_wp2_with fail
  go_loopw [9, 16] (fun vv _ wr => ∃ (i v : Nat), vv = .int .u64 (v : Int) ∧ NumIs raw s i v ∧ wr = w.iter sub i ∧ s + i ≤ e) (fun _ _ wr => sub.size + 1 - wr.iterPos w.heap.size)
  case atStart => exact ⟨0, 0, rfl, ⟨rfl⟩, rfl, by omega⟩
  case round =>
    obtain ⟨i, v, rfl, hv, rfl, hi⟩ := hrel
    have hv10 : v < 10000000000 := by
      have h1 := hD.num_lt i hi
      have h2 := Nat.pow_le_pow_right (n := 10) (by decide) (show i ≤ 10 by omega)
      rw [hv.eq]
      omega
    by_cases hlt : s + i < e
    · have hp : i < sub.size := by omega
      have hl := hT.low (s + i) (by omega) (by omega) hlt
      have hd := hD.dig (s + i) (by omega) (by omega) hlt
      have hbt := bt_at raw (s + i) (by omega)
      rw [← hS.byte i hp (by omega)] at hl hd hbt
      have hnx : ∀ ty, (Instr.next (.pointer (some ⟨w.heap.size, 0, none⟩)) true ty).run Tryz.prog (w.iter sub i) = _ := fun ty => run_next_ascii w sub i ty hp hl.1
      generalize (sub[i]'hp).toNat = c at *
      have hne : ((c : Int) == 32) = false := by simp; omega
      have hil : ((i : Int) == (L : Int)) = false := by simp; omega
      have j1 : decide ((c : Int) < 48) = false := decide_eq_false (by omega)
      have j2 : decide ((57 : Int) < c) = false := decide_eq_false (by omega)
      have hnext : NumIs raw s (i + 1) (v * 10 + (c - 48)) := ⟨by
        show _ = numTo raw s i * 10 + (bt raw (s + i) - 48)
        rw [← hv.eq, ← hbt]⟩
      clear hl hbt
      go_wp2_with fail
      go_roundw
      case rel => exact ⟨i + 1, v * 10 + (c - 48), by first | rfl | go_num | (congr 1; omega), hnext, by first | rfl | trivial, by omega⟩
      case measure => simp; omega
    · obtain rfl : e = s + i := by omega
      have hvv : v = vf := by rw [hv.eq, hvf.eq]; congr 1; omega
      subst hvv
      by_cases hend : s + i < raw.size
      · have hp : i < sub.size := by omega
        have h32 := hT.stop hend
        have hc : (sub[i]'hp).toNat = 32 := by rw [hS.byte i hp (by omega)]; exact h32
        have hnx : ∀ ty, (Instr.next (.pointer (some ⟨w.heap.size, 0, none⟩)) true ty).run Tryz.prog (w.iter sub i) = _ := fun ty => run_next_ascii w sub i ty hp (by omega)
        rw [hc] at hnx
        have HV := Lib.hid (hnp.mid hend)
        go_wp2_with fail
        refine bodyPost_ret (v := .tuple #[.int .u64 (v : Int), .int .i64 ((s : Int) + i + 1), .nilIface]) ?h1 rfl ⟨by rw [HV.out]; rfl, below_iter _ _ _⟩
        case h1 => simp [results, Tryz.results84, go_sem]
      · have hp : ¬ i < sub.size := by omega
        have hnx : ∀ ty, (Instr.next (.pointer (some ⟨w.heap.size, 0, none⟩)) true ty).run Tryz.prog (w.iter sub i) = _ := fun ty => run_next_end w sub i ty hp
        have HV := Lib.hid (hnp.last hend)
        go_wp2_with fail
        refine bodyPost_ret (v := .tuple #[.int .u64 (v : Int), .int .i64 (raw.size : Int), .nilIface]) ?h2 rfl ⟨by rw [HV.out], below_iter _ _ _⟩
        case h2 => simp [results, Tryz.results84, go_sem]

set_option maxRecDepth 100000 in
set_option maxHeartbeats 400000 in
theorem readComp (raw : ByteArray) (s e : Nat) (hD : Digits raw s e 5) (v : Nat) (hv : v = numTo raw s (e - s)) (hv2 : v ≤ 65535) (hs : raw.size ≤ 4611686018427387904) (w : World) :
    Calls Tryz.prog 65 #[.string raw, .int .i64 (s : Int)] w fun en w' => en = .returned (.tuple #[.int .u16 (v : Int), .int .i64 ((nextPos raw e : Nat) : Int), .nilIface]) ∧ Below w.heap.size w w' := by
  have h := readDigit raw s e 5 hD (by omega) hs w
  rw [← hv] at h
  generalize nextPos raw e = np at *
  have HH := Lib.hid h
  clear h hv
  have j : decide ((65535 : Int) < v) = false := decide_eq_false (by omega)
  go_enter Tryz.func65, Tryz.ntmps65
  go_wp2_with fail
  refine HH.out.mono ?_
  rintro en w' ⟨rfl, hb⟩
  go_wp2_with fail
  refine bodyPost_ret (v := .tuple #[.int .u16 (v : Int), .int .i64 (np : Int), .nilIface]) ?h1 rfl ⟨rfl, hb⟩
  case h1 => simp [results, Tryz.results65, go_sem]

set_option maxRecDepth 100000 in
set_option maxHeartbeats 400000 in
theorem readPrio (raw : ByteArray) (s e : Nat) (hD : Digits raw s e 10) (v : Nat) (hv : v = numTo raw s (e - s)) (hv2 : v ≤ 4294967295) (hs : raw.size ≤ 4611686018427387904) (w : World) :
    Calls Tryz.prog 67 #[.string raw, .int .i64 (s : Int)] w fun en w' => en = .returned (.tuple #[.int .u32 (v : Int), .int .i64 ((nextPos raw e : Nat) : Int), .nilIface]) ∧ Below w.heap.size w w' := by
  have h := readDigit raw s e 10 hD (by omega) hs w
  rw [← hv] at h
  generalize nextPos raw e = np at *
  have HH := Lib.hid h
  clear h hv
  have j : decide ((4294967295 : Int) < v) = false := decide_eq_false (by omega)
  go_enter Tryz.func67, Tryz.ntmps67
  go_wp2_with fail
  refine HH.out.mono ?_
  rintro en w' ⟨rfl, hb⟩
  go_wp2_with fail
  refine bodyPost_ret (v := .tuple #[.int .u32 (v : Int), .int .i64 (np : Int), .nilIface]) ?h1 rfl ⟨rfl, hb⟩
  case h1 => simp [results, Tryz.results67, go_sem]

set_option maxRecDepth 100000 in
set_option maxHeartbeats 400000 in
theorem readPort (raw : ByteArray) (s e : Nat) (hD : Digits raw s e 5) (v : Nat) (hv : v = numTo raw s (e - s)) (hv2 : v ≤ 65535) (hs : raw.size ≤ 4611686018427387904) (w : World) :
    Calls Tryz.prog 69 #[.string raw, .int .i64 (s : Int)] w fun en w' => en = .returned (.tuple #[.int .i64 (v : Int), .int .i64 ((nextPos raw e : Nat) : Int), .nilIface]) ∧ Below w.heap.size w w' := by
  have h := readDigit raw s e 5 hD (by omega) hs w
  rw [← hv] at h
  generalize nextPos raw e = np at *
  have HH := Lib.hid h
  clear h hv
  have j : decide ((65535 : Int) < v) = false := decide_eq_false (by omega)
  go_enter Tryz.func69, Tryz.ntmps69
  go_wp2_with fail
  refine HH.out.mono ?_
  rintro en w' ⟨rfl, hb⟩
  go_wp2_with fail
  refine bodyPost_ret (v := .tuple #[.int .i64 (v : Int), .int .i64 (np : Int), .nilIface]) ?h1 rfl ⟨rfl, hb⟩
  case h1 => simp [results, Tryz.results69, go_sem]
end Go.Proofs.YtmfdbcfpcifmcaaGreatDoor

namespace Go.Proofs.YtmfdbcfpcifmcaaGreatDoor
open Go.RowKit

/-- How many spaces stand ahead of place i. -/
def cnt (t : ByteArray) : Nat → Nat
  | 0 => 0
  | i + 1 => cnt t i + (if bt t i = 32 then 1 else 0)
theorem cnt_mono (t : ByteArray) {i j : Nat} (h : i ≤ j) : cnt t i ≤ cnt t j := by
  induction j with
  | zero =>
    obtain rfl : i = 0 := by omega
    exact Nat.le_refl _
  | succ j ih =>
    by_cases e : i = j + 1
    · subst e
      exact Nat.le_refl _
    · have := ih (by omega)
      show cnt t i ≤ cnt t j + _
      omega
theorem ext_snoc (t : ByteArray) (i : Nat) : t.extract 0 i ++ t.extract i (i + 1) = t.extract 0 (i + 1) := by
  apply ByteArray.ext
  simp

structure CntIs (t : ByteArray) (i c : Nat) : Prop where
  eq : c = cnt t i
structure OutIs (t : ByteArray) (i : Nat) (o : ByteArray) : Prop where
  eq : o = t.extract 0 i

set_option maxRecDepth 100000 in
set_option maxHeartbeats 400000 in
theorem firstOut (t : ByteArray) (n : Int) (h : n < 0 ∨ 7 < n) (w : World) : Calls Tryz.prog 23 #[.string t, .int .i64 n] w fun e w' => e = .returned (.tuple #[.string ⟨#[]⟩, .bool false]) ∧ w' = w := by
  rcases h with h | h
  · have j : decide (n < 0) = true := decide_eq_true h
    go_enter Tryz.func23, Tryz.ntmps23
    go_wp2_with fail
    go_ret2
    exact ⟨rfl, rfl⟩
  · have j : decide (n < 0) = false := decide_eq_false (by omega)
    have j2 : decide (7 < n) = true := decide_eq_true h
    go_enter Tryz.func23, Tryz.ntmps23
    go_wp2_with fail
    go_ret2
    exact ⟨rfl, rfl⟩

set_option maxRecDepth 100000 in
set_option maxHeartbeats 1000000 in
theorem firstNone (t : ByteArray) (hs : t.size ≤ 4611686018427387904) (w : World) : Calls Tryz.prog 23 #[.string t, .int .i64 0] w fun e w' => e = .returned (.tuple #[.string ⟨#[]⟩, .bool true]) ∧ w' = w := by
  go_enter Tryz.func23, Tryz.ntmps23
  go_wp2_with fail
  go_loopw [6, 7, 17] (fun vo vw vi wr => ∃ (i c : Nat), vo = .string ⟨#[]⟩ ∧ vw = .int .i64 c ∧ vi = .int .i64 i ∧ i ≤ t.size ∧ c ≤ i ∧ wr = w) (fun _ _ vi _ => t.size - (intOf vi).toNat)
  case atStart => exact ⟨0, 0, rfl, rfl, rfl, Nat.zero_le _, Nat.le_refl _, rfl⟩
  case round =>
    obtain ⟨i, c, rfl, rfl, rfl, hi, hc, rfl⟩ := hrel
    by_cases hlt : i < t.size
    · have hix : ∀ W, (Instr.index 9 (.string t) (.int .i64 (i : Int))).run Tryz.prog W = .ok (.int .u8 ((t[i]'hlt).toNat : Int)) W := fun W => by
        rw [run_index_string W 9 t .i64 _ Tryz.underlying9, dif_pos ⟨by omega, by omega⟩]
        have e : ((i : Int)).toNat = i := by omega
        simp only [e]
      generalize (t[i]'hlt).toNat = x at hix
      by_cases h32 : x = 32
      · subst h32
        have hcz : (((c : Int) + 1) == 0) = false := by simp; omega
        go_wp2_with fail
        go_roundw
        case rel => exact ⟨i + 1, c + 1, rfl, by go_num, by go_num, by omega, by omega, by first | rfl | trivial⟩
        case measure => simp [intOf]; omega
      · have hx : ((x : Int) == 32) = false := by simp; omega
        go_wp2_with fail
        go_roundw
        case rel => exact ⟨i + 1, c, rfl, rfl, by go_num, by omega, by omega, by first | rfl | trivial⟩
        case measure => simp [intOf]; omega
    · go_wp2_with fail
      go_ret2
      exact ⟨rfl, rfl⟩

set_option maxRecDepth 100000 in
set_option maxHeartbeats 1000000 in
theorem firstWords (t : ByteArray) (hs : t.size ≤ 4611686018427387904) (n : Nat) (h1 : 1 ≤ n) (h7 : n ≤ 7) (p : Nat) (hp : p < t.size) (h32 : bt t p = 32) (hc : cnt t p + 1 = n) (w : World) :
    Calls Tryz.prog 23 #[.string t, .int .i64 (n : Int)] w fun e w' => e = .returned (.tuple #[.string (t.extract 0 p), .bool true]) ∧ w' = w := by
  have j1 : decide ((n : Int) < 0) = false := decide_eq_false (by omega)
  have j2 : decide ((7 : Int) < n) = false := decide_eq_false (by omega)
  have j3 : decide ((0 : Int) < n) = true := decide_eq_true (by omega)
  have j4 : decide (0 < n) = true := decide_eq_true (by omega)
  obtain ⟨fin, hfin⟩ : ∃ o, OutIs t p o := ⟨_, ⟨rfl⟩⟩
  rw [← hfin.eq]
  go_enter Tryz.func23, Tryz.ntmps23
  go_wp2_with fail
  go_loopw [6, 7, 17] (fun vo vw vi wr => ∃ (i c : Nat) (o : ByteArray), vo = .string o ∧ vw = .int .i64 c ∧ vi = .int .i64 i ∧ i ≤ p ∧ CntIs t i c ∧ OutIs t i o ∧ wr = w) (fun _ _ vi _ => t.size - (intOf vi).toNat)
  case atStart => exact ⟨0, 0, _, rfl, rfl, rfl, Nat.zero_le _, ⟨rfl⟩, ⟨by apply ByteArray.ext; simp⟩, rfl⟩
  case round =>
    obtain ⟨i, c, o, rfl, rfl, rfl, hi, hci, ho, rfl⟩ := hrel
    have hlt : i < t.size := by omega
    have hc7 : c ≤ 7 := by
      have := cnt_mono t hi
      rw [hci.eq]
      omega
    have hos : o.size = i := by rw [ho.eq]; simp [ByteArray.size_extract]; omega
    have hix : ∀ W, (Instr.index 9 (.string t) (.int .i64 (i : Int))).run Tryz.prog W = .ok (.int .u8 ((t[i]'hlt).toNat : Int)) W := fun W => by
      rw [run_index_string W 9 t .i64 _ Tryz.underlying9, dif_pos ⟨by omega, by omega⟩]
      have e : ((i : Int)).toNat = i := by omega
      simp only [e]
    have hbt := bt_at t i hlt
    rw [hbt] at hix
    clear hbt
    by_cases he : i = p
    · subst he
      rw [h32] at hix
      have hcn : (((c : Int) + 1) == (n : Int)) = true := by
        have := hci.eq
        simp
        omega
      have hof : o = fin := by rw [ho.eq, hfin.eq]
      subst hof
      clear hci
      go_wp2_with fail
      go_ret2
      exact ⟨rfl, rfl⟩
    · have hsl : ∀ W, (Instr.slice 9 (.string t) (some (.int .i64 (i : Int))) (some (.int .i64 ((i : Int) + 1))) none).run Tryz.prog W = .ok (.string (t.extract i (i + 1))) W := fun W => by
        have := sliceTo t i (i + 1) (by omega) (by omega) W
        simpa using this
      have hxs : (t.extract i (i + 1)).size = 1 := by simp [ByteArray.size_extract]; omega
      have hon : OutIs t (i + 1) (o ++ t.extract i (i + 1)) := ⟨by rw [ho.eq]; exact ext_snoc t i⟩
      have hcl : cnt t (i + 1) ≤ cnt t p := cnt_mono t (by omega)
      have hcs : cnt t (i + 1) = cnt t i + (if bt t i = 32 then 1 else 0) := rfl
      generalize t.extract i (i + 1) = piece at *
      by_cases hb : bt t i = 32
      · rw [if_pos hb] at hcs
        rw [hb] at hix
        have hcn : (((c : Int) + 1) == (n : Int)) = false := by
          have := hci.eq
          simp
          omega
        have hnc : CntIs t (i + 1) (c + 1) := ⟨by rw [hcs, ← hci.eq]⟩
        clear hcl hcs hci
        go_wp2_with fail
        go_roundw
        case rel => exact ⟨i + 1, c + 1, _, rfl, by go_num, by go_num, by omega, hnc, hon, by first | rfl | trivial⟩
        case measure => simp [intOf]; omega
      · rw [if_neg hb] at hcs
        have hnc : CntIs t (i + 1) c := ⟨by rw [hcs, ← hci.eq]; rfl⟩
        generalize bt t i = x at *
        have hx : ((x : Int) == 32) = false := by simp; omega
        clear hcl hcs hci
        go_wp2_with fail
        go_roundw
        case rel => exact ⟨i + 1, c, _, rfl, rfl, by go_num, by omega, hnc, hon, by first | rfl | trivial⟩
        case measure => simp [intOf]; omega
end Go.Proofs.YtmfdbcfpcifmcaaGreatDoor

namespace Go.Proofs.YtmfdbcfpcifmcaaGreatDoor
open Go.RowKit

/-- Seven words, each with a space behind it: where they begin (s) and end (e), and what they are. -/
structure Seven (t : ByteArray) (s e : Nat → Nat) (comp prio port : Nat) : Prop where
  s0 : s 0 = 0
  next : ∀ k, s (k + 1) = e k + 1
  le : ∀ k, k < 7 → s k < e k
  size : e 6 < t.size
  low : ∀ k, k < 7 → ∀ j, s k ≤ j → j < e k → bt t j < 128 ∧ bt t j ≠ 32
  space : ∀ k, k < 7 → bt t (e k) = 32
  ch : ∀ j, j < e 0 → isCh (bt t j)
  len0 : e 0 ≤ 32
  dig : ∀ k, k = 1 ∨ k = 3 ∨ k = 5 → ∀ j, s k ≤ j → j < e k → 48 ≤ bt t j ∧ bt t j ≤ 57
  len1 : e 1 - s 1 ≤ 5
  len3 : e 3 - s 3 ≤ 10
  len5 : e 5 - s 5 ≤ 5
  num1 : numTo t (s 1) (e 1 - s 1) = comp
  num3 : numTo t (s 3) (e 3 - s 3) = prio
  num5 : numTo t (s 5) (e 5 - s 5) = port
  hcomp : comp ≤ 65535
  hprio : prio ≤ 4294967295
  hport : port ≤ 65535
  noCut : ∀ j, s 4 ≤ j → j < e 4 → bt t j ≠ 37
  typ : t.extract (s 6) (e 6) = ⟨#[116, 121, 112]⟩

variable {t : ByteArray} {s e : Nat → Nat} {comp prio port : Nat}

theorem Seven.end_lt (h : Seven t s e comp prio port) : ∀ k, k < 6 → e k < e (k + 1) := fun k hk => by
  have := h.next k
  have := h.le (k + 1) (by omega)
  omega
theorem Seven.end_le (h : Seven t s e comp prio port) (k n : Nat) (hkn : k ≤ n) (hn : n < 7) : e k ≤ e n := by
  induction n with
  | zero =>
    obtain rfl : k = 0 := by omega
    exact Nat.le_refl _
  | succ n ih =>
    by_cases hk : k = n + 1
    · rw [hk]
      exact Nat.le_refl _
    · have := ih (by omega) (by omega)
      have := h.end_lt n (by omega)
      omega
theorem Seven.size_n (h : Seven t s e comp prio port) (n : Nat) (hn : n < 7) : (t.extract 0 (e n)).size = e n := by
  have := h.end_le n 6 (by omega) (by omega)
  have := h.size
  simp [ByteArray.size_extract]
  omega
theorem bt_extract (t : ByteArray) (p j : Nat) (hj : j < p) (hp : p ≤ t.size) : bt (t.extract 0 p) j = bt t j := by
  have h1 : j < (t.extract 0 p).size := by simp [ByteArray.size_extract]; omega
  rw [← bt_at _ j h1, ← bt_at t j (by omega)]
  simp [ByteArray.getElem_extract]
theorem numTo_extract (t : ByteArray) (p s i : Nat) (hj : s + i ≤ p) (hp : p ≤ t.size) : numTo (t.extract 0 p) s i = numTo t s i := by
  induction i with
  | zero => rfl
  | succ i ih =>
    show numTo (t.extract 0 p) s i * 10 + (bt (t.extract 0 p) (s + i) - 48) = _
    rw [ih (by omega), bt_extract t p (s + i) (by omega) hp]
    rfl

/-- Word k of the first n + 1 words. -/
theorem Seven.tok (h : Seven t s e comp prio port) (n k : Nat) (hn : n < 7) (hk : k ≤ n) : Tok (t.extract 0 (e n)) (s k) (e k) := by
  have hsz := h.size_n n hn
  have h6 := h.size
  have hen := h.end_le n 6 (by omega) (by omega)
  have hek := h.end_le k n hk hn
  refine ⟨Nat.le_of_lt (h.le k (by omega)), by omega, fun j hj h1 h2 => ?_, fun hlt => ?_⟩
  · have := h.low k (by omega) j h1 h2
    rw [bt_at, bt_extract t (e n) j (by omega) (by omega)]
    exact this
  · rw [bt_at, bt_extract t (e n) (e k) (by omega) (by omega)]
    exact h.space k (by omega)
theorem Seven.digits (h : Seven t s e comp prio port) (n k L : Nat) (hn : n < 7) (hk : k ≤ n) (h135 : k = 1 ∨ k = 3 ∨ k = 5) (hL : e k - s k ≤ L) : Digits (t.extract 0 (e n)) (s k) (e k) L := by
  have hen := h.end_le n 6 (by omega) (by omega)
  have hek := h.end_le k n hk hn
  have h6 := h.size
  refine ⟨h.tok n k hn hk, fun j hj h1 h2 => ?_, hL⟩
  rw [bt_at, bt_extract t (e n) j (by omega) (by omega)]
  exact h.dig k h135 j h1 h2
theorem Seven.num (h : Seven t s e comp prio port) (n k : Nat) (hn : n < 7) (hk : k ≤ n) : numTo (t.extract 0 (e n)) (s k) (e k - s k) = numTo t (s k) (e k - s k) := by
  have hen := h.end_le n 6 (by omega) (by omega)
  have hek := h.end_le k n hk hn
  have hl := h.le k (by omega)
  have h6 := h.size
  exact numTo_extract t (e n) (s k) _ (by omega) (by omega)
/-- Behind word k of n + 1 words: the next one, or the end. -/
theorem Seven.pos (h : Seven t s e comp prio port) (n k : Nat) (hn : n < 7) (hk : k < n) : nextPos (t.extract 0 (e n)) (e k) = s (k + 1) ∧ s (k + 1) < (t.extract 0 (e n)).size := by
  have hsz := h.size_n n hn
  have h1 := h.end_lt k (by omega)
  have h2 := h.end_le (k + 1) n (by omega) hn
  have h3 := h.le (k + 1) (by omega)
  refine ⟨?_, by omega⟩
  rw [nextPos, if_pos (by omega), h.next k]
theorem Seven.posEnd (h : Seven t s e comp prio port) (n : Nat) (hn : n < 7) : nextPos (t.extract 0 (e n)) (e n) = (t.extract 0 (e n)).size := by
  have hsz := h.size_n n hn
  rw [nextPos, if_neg (by omega)]

def candS : List UInt8 := [99, 97, 110, 100, 105, 100, 97, 116, 101, 58]
/-- No such prefix: a word of ICE's letters has no colon. -/
theorem Seven.noPrefix (h : Seven t s e comp prio port) (n : Nat) (hn : n < 7) : Lib.trimPrefix (t.extract 0 (e n)).data.toList candS = (t.extract 0 (e n)).data.toList := by
  unfold Lib.trimPrefix
  rw [if_neg]
  intro hp
  have hpre : candS <+: (t.extract 0 (e n)).data.toList := List.isPrefixOf_iff_prefix.1 hp
  obtain ⟨r, hr⟩ := hpre
  have hsz := h.size_n n hn
  have hb : ∀ j (hj : j < 10), bt (t.extract 0 (e n)) j = (candS.getD j 0).toNat := fun j hj => by
    unfold bt
    rw [← hr, List.getD_eq_getElem?_getD, List.getD_eq_getElem?_getD, List.getElem?_append_left (by simpa [candS] using hj)]
  have hlen : 10 ≤ e n := by
    have e1 : (t.extract 0 (e n)).data.toList.length = (t.extract 0 (e n)).size := Array.length_toList
    rw [← hr] at e1
    simp [candS] at e1
    omega
  have hen := h.end_le n 6 (by omega) (by omega)
  have h6 := h.size
  have hbt : ∀ j, j < 10 → bt t j = (candS.getD j 0).toNat := fun j hj => by rw [← hb j hj, bt_extract t (e n) j (by omega) (by omega)]
  have h0 := h.space 0 (by omega)
  have he : 9 < e 0 := by
    rcases Nat.lt_or_ge 9 (e 0) with hh | hh
    · exact hh
    · have := hbt (e 0) (by omega)
      rw [h0] at this
      have hc : ∀ j : Fin 10, (candS.getD j.val 0).toNat ≠ 32 := by decide
      exact absurd this.symm (hc ⟨e 0, by omega⟩)
  have h9 := h.ch 9 he
  rw [hbt 9 (by omega)] at h9
  have : (candS.getD 9 0).toNat = 58 := by decide
  rw [this] at h9
  unfold isCh at h9
  omega
end Go.Proofs.YtmfdbcfpcifmcaaGreatDoor

namespace Go.Proofs.YtmfdbcfpcifmcaaGreatDoor
open Go.RowKit

theorem of_list (s : ByteArray) : (⟨s.data.toList.toArray⟩ : ByteArray) = s := by
  cases s
  simp
theorem trimNone (raw : ByteArray) (hp : Lib.trimPrefix raw.data.toList candS = raw.data.toList) (w : World) :
    Calls Tryz.prog 63 #[.string raw, .string ⟨#[99, 97, 110, 100, 105, 100, 97, 116, 101, 58]⟩] w fun e w' => e = .returned (.string raw) ∧ w' = w := by
  refine (Tryz.strings_TrimPrefix raw ⟨#[99, 97, 110, 100, 105, 100, 97, 116, 101, 58]⟩ w).mono ?_
  rintro e w' ⟨rfl, rfl⟩
  have e1 : (⟨#[99, 97, 110, 100, 105, 100, 97, 116, 101, 58]⟩ : ByteArray).data.toList = candS := rfl
  rw [e1, hp, of_list]
  exact ⟨rfl, rfl⟩

set_option maxRecDepth 100000 in
set_option maxHeartbeats 1000000 in
theorem unm0 (raw w0 : ByteArray) (q0 : Nat) (hp : Lib.trimPrefix raw.data.toList candS = raw.data.toList)
    (R0 : ∀ W, Calls Tryz.prog 64 #[.string raw, .int .i64 0, .int .i64 32] W fun e w' => e = .returned (.tuple #[.string w0, .int .i64 (q0 : Int), .nilIface]) ∧ Below W.heap.size W w')
    (h0 : 0 < w0.size) (l0 : q0 = raw.size) (w : World) :
    Calls Tryz.prog 47 #[.string raw] w fun e w' => ∃ v : Value, e = .returned (.tuple #[.nilIface, .iface 132 v]) ∧ Below w.heap.size w w' := by
  have hne := notEmpty h0
  subst l0
  go_enter Tryz.func47, Tryz.ntmps47
  go_wp2_with fail
  refine (trimNone raw hp _).mono ?_
  rintro e w' ⟨rfl, rfl⟩
  clear hp
  go_wp2_with fail
  refine (R0 _).mono ?_
  rintro e v0 ⟨rfl, hb0⟩
  go_wp2_with fail
  go_ret2
  exact ⟨_, rfl, hb0⟩

set_option maxRecDepth 100000 in
set_option maxHeartbeats 1000000 in
theorem unm1 (raw w0 : ByteArray) (q0 q1 comp : Nat) (hp : Lib.trimPrefix raw.data.toList candS = raw.data.toList)
    (R0 : ∀ W, Calls Tryz.prog 64 #[.string raw, .int .i64 0, .int .i64 32] W fun e w' => e = .returned (.tuple #[.string w0, .int .i64 (q0 : Int), .nilIface]) ∧ Below W.heap.size W w')
    (R1 : ∀ W, Calls Tryz.prog 65 #[.string raw, .int .i64 (q0 : Int)] W fun e w' => e = .returned (.tuple #[.int .u16 (comp : Int), .int .i64 (q1 : Int), .nilIface]) ∧ Below W.heap.size W w')
    (h0 : 0 < w0.size) (l0 : q0 < raw.size) (l1 : q1 = raw.size) (w : World) :
    Calls Tryz.prog 47 #[.string raw] w fun e w' => ∃ v : Value, e = .returned (.tuple #[.nilIface, .iface 132 v]) ∧ Below w.heap.size w w' := by
  have hne := notEmpty h0
  have j0 : decide ((raw.size : Int) ≤ q0) = false := decide_eq_false (by omega)
  subst l1
  go_enter Tryz.func47, Tryz.ntmps47
  go_wp2_with fail
  refine (trimNone raw hp _).mono ?_
  rintro e w' ⟨rfl, rfl⟩
  clear hp
  go_wp2_with fail
  refine (R0 _).mono ?_
  rintro e v0 ⟨rfl, hb0⟩
  go_wp2_with fail
  refine (R1 _).mono ?_
  rintro e v1 ⟨rfl, hx⟩
  have hb1 := hb0.trans (hx.mono hb0.size)
  clear hx
  go_wp2_with fail
  go_ret2
  exact ⟨_, rfl, hb1⟩

set_option maxRecDepth 100000 in
set_option maxHeartbeats 1000000 in
theorem unm2 (raw w0 w2 : ByteArray) (q0 q1 q2 comp : Nat) (hp : Lib.trimPrefix raw.data.toList candS = raw.data.toList)
    (R0 : ∀ W, Calls Tryz.prog 64 #[.string raw, .int .i64 0, .int .i64 32] W fun e w' => e = .returned (.tuple #[.string w0, .int .i64 (q0 : Int), .nilIface]) ∧ Below W.heap.size W w')
    (R1 : ∀ W, Calls Tryz.prog 65 #[.string raw, .int .i64 (q0 : Int)] W fun e w' => e = .returned (.tuple #[.int .u16 (comp : Int), .int .i64 (q1 : Int), .nilIface]) ∧ Below W.heap.size W w')
    (R2 : ∀ W, Calls Tryz.prog 66 #[.string raw, .int .i64 (q1 : Int)] W fun e w' => e = .returned (.tuple #[.string w2, .int .i64 (q2 : Int)]) ∧ Below W.heap.size W w')
    (h0 : 0 < w0.size) (l0 : q0 < raw.size) (l1 : q1 < raw.size) (l2 : q2 = raw.size) (w : World) :
    Calls Tryz.prog 47 #[.string raw] w fun e w' => ∃ v : Value, e = .returned (.tuple #[.nilIface, .iface 132 v]) ∧ Below w.heap.size w w' := by
  have hne := notEmpty h0
  have j0 : decide ((raw.size : Int) ≤ q0) = false := decide_eq_false (by omega)
  have j1 : decide ((raw.size : Int) ≤ q1) = false := decide_eq_false (by omega)
  subst l2
  go_enter Tryz.func47, Tryz.ntmps47
  go_wp2_with fail
  refine (trimNone raw hp _).mono ?_
  rintro e w' ⟨rfl, rfl⟩
  clear hp
  go_wp2_with fail
  refine (R0 _).mono ?_
  rintro e v0 ⟨rfl, hb0⟩
  go_wp2_with fail
  refine (R1 _).mono ?_
  rintro e v1 ⟨rfl, hx⟩
  have hb1 := hb0.trans (hx.mono hb0.size)
  clear hx
  go_wp2_with fail
  refine (R2 _).mono ?_
  rintro e v2 ⟨rfl, hx⟩
  have hb2 := hb1.trans (hx.mono hb1.size)
  clear hx
  go_wp2_with fail
  go_ret2
  exact ⟨_, rfl, hb2⟩

set_option maxRecDepth 100000 in
set_option maxHeartbeats 1000000 in
theorem unm3 (raw w0 w2 : ByteArray) (q0 q1 q2 q3 comp prio : Nat) (hp : Lib.trimPrefix raw.data.toList candS = raw.data.toList)
    (R0 : ∀ W, Calls Tryz.prog 64 #[.string raw, .int .i64 0, .int .i64 32] W fun e w' => e = .returned (.tuple #[.string w0, .int .i64 (q0 : Int), .nilIface]) ∧ Below W.heap.size W w')
    (R1 : ∀ W, Calls Tryz.prog 65 #[.string raw, .int .i64 (q0 : Int)] W fun e w' => e = .returned (.tuple #[.int .u16 (comp : Int), .int .i64 (q1 : Int), .nilIface]) ∧ Below W.heap.size W w')
    (R2 : ∀ W, Calls Tryz.prog 66 #[.string raw, .int .i64 (q1 : Int)] W fun e w' => e = .returned (.tuple #[.string w2, .int .i64 (q2 : Int)]) ∧ Below W.heap.size W w')
    (R3 : ∀ W, Calls Tryz.prog 67 #[.string raw, .int .i64 (q2 : Int)] W fun e w' => e = .returned (.tuple #[.int .u32 (prio : Int), .int .i64 (q3 : Int), .nilIface]) ∧ Below W.heap.size W w')
    (h0 : 0 < w0.size) (l0 : q0 < raw.size) (l1 : q1 < raw.size) (l2 : q2 < raw.size) (l3 : q3 = raw.size) (w : World) :
    Calls Tryz.prog 47 #[.string raw] w fun e w' => ∃ v : Value, e = .returned (.tuple #[.nilIface, .iface 132 v]) ∧ Below w.heap.size w w' := by
  have hne := notEmpty h0
  have j0 : decide ((raw.size : Int) ≤ q0) = false := decide_eq_false (by omega)
  have j1 : decide ((raw.size : Int) ≤ q1) = false := decide_eq_false (by omega)
  have j2 : decide ((raw.size : Int) ≤ q2) = false := decide_eq_false (by omega)
  subst l3
  go_enter Tryz.func47, Tryz.ntmps47
  go_wp2_with fail
  refine (trimNone raw hp _).mono ?_
  rintro e w' ⟨rfl, rfl⟩
  clear hp
  go_wp2_with fail
  refine (R0 _).mono ?_
  rintro e v0 ⟨rfl, hb0⟩
  go_wp2_with fail
  refine (R1 _).mono ?_
  rintro e v1 ⟨rfl, hx⟩
  have hb1 := hb0.trans (hx.mono hb0.size)
  clear hx
  go_wp2_with fail
  refine (R2 _).mono ?_
  rintro e v2 ⟨rfl, hx⟩
  have hb2 := hb1.trans (hx.mono hb1.size)
  clear hx
  go_wp2_with fail
  refine (R3 _).mono ?_
  rintro e v3 ⟨rfl, hx⟩
  have hb3 := hb2.trans (hx.mono hb2.size)
  clear hx
  go_wp2_with fail
  go_ret2
  exact ⟨_, rfl, hb3⟩

set_option maxRecDepth 100000 in
set_option maxHeartbeats 1000000 in
theorem unm4 (raw w0 w2 w4 : ByteArray) (q0 q1 q2 q3 q4 comp prio : Nat) (hp : Lib.trimPrefix raw.data.toList candS = raw.data.toList)
    (R0 : ∀ W, Calls Tryz.prog 64 #[.string raw, .int .i64 0, .int .i64 32] W fun e w' => e = .returned (.tuple #[.string w0, .int .i64 (q0 : Int), .nilIface]) ∧ Below W.heap.size W w')
    (R1 : ∀ W, Calls Tryz.prog 65 #[.string raw, .int .i64 (q0 : Int)] W fun e w' => e = .returned (.tuple #[.int .u16 (comp : Int), .int .i64 (q1 : Int), .nilIface]) ∧ Below W.heap.size W w')
    (R2 : ∀ W, Calls Tryz.prog 66 #[.string raw, .int .i64 (q1 : Int)] W fun e w' => e = .returned (.tuple #[.string w2, .int .i64 (q2 : Int)]) ∧ Below W.heap.size W w')
    (R3 : ∀ W, Calls Tryz.prog 67 #[.string raw, .int .i64 (q2 : Int)] W fun e w' => e = .returned (.tuple #[.int .u32 (prio : Int), .int .i64 (q3 : Int), .nilIface]) ∧ Below W.heap.size W w')
    (R4 : ∀ W, Calls Tryz.prog 66 #[.string raw, .int .i64 (q3 : Int)] W fun e w' => e = .returned (.tuple #[.string w4, .int .i64 (q4 : Int)]) ∧ Below W.heap.size W w')
    (h0 : 0 < w0.size) (l0 : q0 < raw.size) (l1 : q1 < raw.size) (l2 : q2 < raw.size) (l3 : q3 < raw.size) (l4 : q4 = raw.size) (RZ : ∀ W, Calls Tryz.prog 68 #[.string w4] W fun e w' => e = .returned (.string w4) ∧ W = w') (w : World) :
    Calls Tryz.prog 47 #[.string raw] w fun e w' => ∃ v : Value, e = .returned (.tuple #[.nilIface, .iface 132 v]) ∧ Below w.heap.size w w' := by
  have hne := notEmpty h0
  have j0 : decide ((raw.size : Int) ≤ q0) = false := decide_eq_false (by omega)
  have j1 : decide ((raw.size : Int) ≤ q1) = false := decide_eq_false (by omega)
  have j2 : decide ((raw.size : Int) ≤ q2) = false := decide_eq_false (by omega)
  have j3 : decide ((raw.size : Int) ≤ q3) = false := decide_eq_false (by omega)
  subst l4
  go_enter Tryz.func47, Tryz.ntmps47
  go_wp2_with fail
  refine (trimNone raw hp _).mono ?_
  rintro e w' ⟨rfl, rfl⟩
  clear hp
  go_wp2_with fail
  refine (R0 _).mono ?_
  rintro e v0 ⟨rfl, hb0⟩
  go_wp2_with fail
  refine (R1 _).mono ?_
  rintro e v1 ⟨rfl, hx⟩
  have hb1 := hb0.trans (hx.mono hb0.size)
  clear hx
  go_wp2_with fail
  refine (R2 _).mono ?_
  rintro e v2 ⟨rfl, hx⟩
  have hb2 := hb1.trans (hx.mono hb1.size)
  clear hx
  go_wp2_with fail
  refine (R3 _).mono ?_
  rintro e v3 ⟨rfl, hx⟩
  have hb3 := hb2.trans (hx.mono hb2.size)
  clear hx
  go_wp2_with fail
  refine (R4 _).mono ?_
  rintro e v4 ⟨rfl, hx⟩
  have hb4 := hb3.trans (hx.mono hb3.size)
  clear hx
  go_wp2_with fail
  refine (RZ _).mono ?_
  rintro e w' ⟨rfl, rfl⟩
  go_wp2_with fail
  go_ret2
  exact ⟨_, rfl, hb4⟩

set_option maxRecDepth 100000 in
set_option maxHeartbeats 1000000 in
theorem unm5 (raw w0 w2 w4 w6 : ByteArray) (q0 q1 q2 q3 q4 q5 q6 comp prio port : Nat) (hp : Lib.trimPrefix raw.data.toList candS = raw.data.toList)
    (R0 : ∀ W, Calls Tryz.prog 64 #[.string raw, .int .i64 0, .int .i64 32] W fun e w' => e = .returned (.tuple #[.string w0, .int .i64 (q0 : Int), .nilIface]) ∧ Below W.heap.size W w')
    (R1 : ∀ W, Calls Tryz.prog 65 #[.string raw, .int .i64 (q0 : Int)] W fun e w' => e = .returned (.tuple #[.int .u16 (comp : Int), .int .i64 (q1 : Int), .nilIface]) ∧ Below W.heap.size W w')
    (R2 : ∀ W, Calls Tryz.prog 66 #[.string raw, .int .i64 (q1 : Int)] W fun e w' => e = .returned (.tuple #[.string w2, .int .i64 (q2 : Int)]) ∧ Below W.heap.size W w')
    (R3 : ∀ W, Calls Tryz.prog 67 #[.string raw, .int .i64 (q2 : Int)] W fun e w' => e = .returned (.tuple #[.int .u32 (prio : Int), .int .i64 (q3 : Int), .nilIface]) ∧ Below W.heap.size W w')
    (R4 : ∀ W, Calls Tryz.prog 66 #[.string raw, .int .i64 (q3 : Int)] W fun e w' => e = .returned (.tuple #[.string w4, .int .i64 (q4 : Int)]) ∧ Below W.heap.size W w')
    (R5 : ∀ W, Calls Tryz.prog 69 #[.string raw, .int .i64 (q4 : Int)] W fun e w' => e = .returned (.tuple #[.int .i64 (port : Int), .int .i64 (q5 : Int), .nilIface]) ∧ Below W.heap.size W w')
    (R6 : ∀ W, Calls Tryz.prog 66 #[.string raw, .int .i64 (q5 : Int)] W fun e w' => e = .returned (.tuple #[.string w6, .int .i64 (q6 : Int)]) ∧ Below W.heap.size W w')
    (h0 : 0 < w0.size) (l0 : q0 < raw.size) (l1 : q1 < raw.size) (l2 : q2 < raw.size) (l3 : q3 < raw.size) (l4 : q4 < raw.size) (RZ : ∀ W, Calls Tryz.prog 68 #[.string w4] W fun e w' => e = .returned (.string w4) ∧ W = w') (h6 : w6 = ⟨#[]⟩) (w : World) :
    Calls Tryz.prog 47 #[.string raw] w fun e w' => ∃ v : Value, e = .returned (.tuple #[.nilIface, .iface 132 v]) ∧ Below w.heap.size w w' := by
  have hne := notEmpty h0
  have j0 : decide ((raw.size : Int) ≤ q0) = false := decide_eq_false (by omega)
  have j1 : decide ((raw.size : Int) ≤ q1) = false := decide_eq_false (by omega)
  have j2 : decide ((raw.size : Int) ≤ q2) = false := decide_eq_false (by omega)
  have j3 : decide ((raw.size : Int) ≤ q3) = false := decide_eq_false (by omega)
  have j4 : decide ((raw.size : Int) ≤ q4) = false := decide_eq_false (by omega)
  subst h6
  go_enter Tryz.func47, Tryz.ntmps47
  go_wp2_with fail
  refine (trimNone raw hp _).mono ?_
  rintro e w' ⟨rfl, rfl⟩
  clear hp
  go_wp2_with fail
  refine (R0 _).mono ?_
  rintro e v0 ⟨rfl, hb0⟩
  go_wp2_with fail
  refine (R1 _).mono ?_
  rintro e v1 ⟨rfl, hx⟩
  have hb1 := hb0.trans (hx.mono hb0.size)
  clear hx
  go_wp2_with fail
  refine (R2 _).mono ?_
  rintro e v2 ⟨rfl, hx⟩
  have hb2 := hb1.trans (hx.mono hb1.size)
  clear hx
  go_wp2_with fail
  refine (R3 _).mono ?_
  rintro e v3 ⟨rfl, hx⟩
  have hb3 := hb2.trans (hx.mono hb2.size)
  clear hx
  go_wp2_with fail
  refine (R4 _).mono ?_
  rintro e v4 ⟨rfl, hx⟩
  have hb4 := hb3.trans (hx.mono hb3.size)
  clear hx
  go_wp2_with fail
  refine (RZ _).mono ?_
  rintro e w' ⟨rfl, rfl⟩
  go_wp2_with fail
  refine (R5 _).mono ?_
  rintro e v5 ⟨rfl, hx⟩
  have hb5 := hb4.trans (hx.mono hb4.size)
  clear hx
  go_wp2_with fail
  refine (R6 _).mono ?_
  rintro e v6 ⟨rfl, hx⟩
  have hb6 := hb5.trans (hx.mono hb5.size)
  clear hx
  go_wp2_with fail
  go_ret2
  exact ⟨_, rfl, hb6⟩

set_option maxRecDepth 100000 in
set_option maxHeartbeats 1000000 in
theorem unm6 (raw w0 w2 w4 w6 : ByteArray) (q0 q1 q2 q3 q4 q5 q6 comp prio port : Nat) (hp : Lib.trimPrefix raw.data.toList candS = raw.data.toList)
    (R0 : ∀ W, Calls Tryz.prog 64 #[.string raw, .int .i64 0, .int .i64 32] W fun e w' => e = .returned (.tuple #[.string w0, .int .i64 (q0 : Int), .nilIface]) ∧ Below W.heap.size W w')
    (R1 : ∀ W, Calls Tryz.prog 65 #[.string raw, .int .i64 (q0 : Int)] W fun e w' => e = .returned (.tuple #[.int .u16 (comp : Int), .int .i64 (q1 : Int), .nilIface]) ∧ Below W.heap.size W w')
    (R2 : ∀ W, Calls Tryz.prog 66 #[.string raw, .int .i64 (q1 : Int)] W fun e w' => e = .returned (.tuple #[.string w2, .int .i64 (q2 : Int)]) ∧ Below W.heap.size W w')
    (R3 : ∀ W, Calls Tryz.prog 67 #[.string raw, .int .i64 (q2 : Int)] W fun e w' => e = .returned (.tuple #[.int .u32 (prio : Int), .int .i64 (q3 : Int), .nilIface]) ∧ Below W.heap.size W w')
    (R4 : ∀ W, Calls Tryz.prog 66 #[.string raw, .int .i64 (q3 : Int)] W fun e w' => e = .returned (.tuple #[.string w4, .int .i64 (q4 : Int)]) ∧ Below W.heap.size W w')
    (R5 : ∀ W, Calls Tryz.prog 69 #[.string raw, .int .i64 (q4 : Int)] W fun e w' => e = .returned (.tuple #[.int .i64 (port : Int), .int .i64 (q5 : Int), .nilIface]) ∧ Below W.heap.size W w')
    (R6 : ∀ W, Calls Tryz.prog 66 #[.string raw, .int .i64 (q5 : Int)] W fun e w' => e = .returned (.tuple #[.string w6, .int .i64 (q6 : Int)]) ∧ Below W.heap.size W w')
    (h0 : 0 < w0.size) (l0 : q0 < raw.size) (l1 : q1 < raw.size) (l2 : q2 < raw.size) (l3 : q3 < raw.size) (l4 : q4 < raw.size) (l5 : q5 < raw.size) (l6 : q6 = raw.size) (RZ : ∀ W, Calls Tryz.prog 68 #[.string w4] W fun e w' => e = .returned (.string w4) ∧ W = w') (h6 : w6 = ⟨#[116, 121, 112]⟩) (w : World) :
    Calls Tryz.prog 47 #[.string raw] w fun e w' => ∃ v : Value, e = .returned (.tuple #[.nilIface, .iface 132 v]) ∧ Below w.heap.size w w' := by
  have hne := notEmpty h0
  have j0 : decide ((raw.size : Int) ≤ q0) = false := decide_eq_false (by omega)
  have j1 : decide ((raw.size : Int) ≤ q1) = false := decide_eq_false (by omega)
  have j2 : decide ((raw.size : Int) ≤ q2) = false := decide_eq_false (by omega)
  have j3 : decide ((raw.size : Int) ≤ q3) = false := decide_eq_false (by omega)
  have j4 : decide ((raw.size : Int) ≤ q4) = false := decide_eq_false (by omega)
  have j5 : decide ((raw.size : Int) ≤ q5) = false := decide_eq_false (by omega)
  subst l6
  subst h6
  go_enter Tryz.func47, Tryz.ntmps47
  go_wp2_with fail
  refine (trimNone raw hp _).mono ?_
  rintro e w' ⟨rfl, rfl⟩
  clear hp
  go_wp2_with fail
  refine (R0 _).mono ?_
  rintro e v0 ⟨rfl, hb0⟩
  go_wp2_with fail
  refine (R1 _).mono ?_
  rintro e v1 ⟨rfl, hx⟩
  have hb1 := hb0.trans (hx.mono hb0.size)
  clear hx
  go_wp2_with fail
  refine (R2 _).mono ?_
  rintro e v2 ⟨rfl, hx⟩
  have hb2 := hb1.trans (hx.mono hb1.size)
  clear hx
  go_wp2_with fail
  refine (R3 _).mono ?_
  rintro e v3 ⟨rfl, hx⟩
  have hb3 := hb2.trans (hx.mono hb2.size)
  clear hx
  go_wp2_with fail
  refine (R4 _).mono ?_
  rintro e v4 ⟨rfl, hx⟩
  have hb4 := hb3.trans (hx.mono hb3.size)
  clear hx
  go_wp2_with fail
  refine (RZ _).mono ?_
  rintro e w' ⟨rfl, rfl⟩
  go_wp2_with fail
  refine (R5 _).mono ?_
  rintro e v5 ⟨rfl, hx⟩
  have hb5 := hb4.trans (hx.mono hb4.size)
  clear hx
  go_wp2_with fail
  refine (R6 _).mono ?_
  rintro e v6 ⟨rfl, hx⟩
  have hb6 := hb5.trans (hx.mono hb5.size)
  clear hx
  go_wp2_with fail
  go_ret2
  exact ⟨_, rfl, hb6⟩

end Go.Proofs.YtmfdbcfpcifmcaaGreatDoor
