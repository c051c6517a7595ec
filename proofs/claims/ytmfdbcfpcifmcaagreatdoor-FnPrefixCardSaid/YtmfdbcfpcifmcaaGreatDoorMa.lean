/- Plain lists: how the text of an IPv4 address is read, letter by letter. | Plain arithmetic: the row of decimal digits that formatBase10 leaves, at a row that is long enough or one place too short. | Small words on memory that the other texts of this claim use: a block that is known whole, and what a call leaves as it was. | What net/netip's reader of an IPv4 address' four numbers does at the text of one. | net/netip: the text of an IPv4 address is read as an address of IPv4. | net/netip: sixteen bytes as an address of IPv6, and what WithZone does with the empty zone. | net/netip: which kind an address is of, by its handle: Is4, Is6, Is4In6, Unmap, and WithZone with the empty zone. (Merged by merge.py out of Plain, Fmt, Base, Fields, Addr4, From16, Zone.) -/
import Derived.Lib.ItoaNum
import Derived.Test.YtmfdbcfpcifmcaaGreatDoorProg
import Derived.WalkKit
import Derived.WalkSpells
import Derived.WalkLawsBesides
import Derived.Lib.Hide
import Derived.Below
import Derived.Deep.Draws
import Derived.Laws.Rows
import Derived.Laws.OwnMore
import Derived.Deep.QuietTactic
import Derived.BigQuiet
import Derived.Deep.RegionHeld3
import Derived.LaidEqlPtr
import Derived.Laws.StructEq
namespace Go.Proofs.YtmfdbcfpcifmcaaGreatDoor.Ip

/-- The reader's state: the number so far, its digits, the points met. -/
abbrev St := Nat × Nat × Nat
def step (st : St) (c : Nat) : Option St :=
  if c = 46 then (if st.2.1 = 0 ∨ st.2.2 = 3 then none else some (0, 0, st.2.2 + 1))
  else if c < 48 ∨ 57 < c then none
  else if st.2.1 = 1 ∧ st.1 = 0 then none
  else if 255 < st.1 * 10 + (c - 48) then none
  else some (st.1 * 10 + (c - 48), st.2.1 + 1, st.2.2)
def run : List UInt8 → St → Option St
  | [], st => some st
  | c :: r, st => (step st c.toNat).bind (run r)
def Ok (l : List UInt8) : Prop := ∃ v m, run l (0, 0, 0) = some (v, m + 1, 3)

theorem run_append (a b : List UInt8) : ∀ st, run (a ++ b) st = (run a st).bind (run b) := by
  induction a with
  | nil => intro st; rfl
  | cons c r ih =>
    intro st
    simp only [List.cons_append, run]
    cases step st c.toNat with
    | none => rfl
    | some x => exact ih x

theorem run_snoc (a : List UInt8) (c : UInt8) (st : St) : run (a ++ [c]) st = (run a st).bind fun x => step x c.toNat := by
  rw [run_append]
  congr 1
  funext x
  simp only [run]
  cases step x c.toNat <;> rfl

theorem take_snoc {l : List UInt8} {k : Nat} (hk : k < l.length) : l.take (k + 1) = l.take k ++ [l[k]] := by
  rw [List.take_succ_eq_append_getElem hk]

/-- At each letter: the state ahead of it, its step, the state behind it. -/
theorem run_at {l : List UInt8} {fin : St} (h : run l (0, 0, 0) = some fin) (k : Nat) (hk : k < l.length) :
    ∃ st st', run (l.take k) (0, 0, 0) = some st ∧ step st (l[k]).toNat = some st' ∧ run (l.take (k + 1)) (0, 0, 0) = some st' := by
  have e : l = l.take (k + 1) ++ l.drop (k + 1) := (List.take_append_drop _ _).symm
  rw [e, run_append, take_snoc hk, run_snoc] at h
  cases h1 : run (l.take k) (0, 0, 0) with
  | none => rw [h1] at h; simp at h
  | some st =>
    rw [h1] at h
    simp only [Option.bind_some] at h
    cases h2 : step st (l[k]).toNat with
    | none => rw [h2] at h; simp at h
    | some st' => exact ⟨st, st', rfl, h2, by rw [take_snoc hk, run_snoc, h1]; exact h2⟩

theorem step_point {st st' : St} {c : Nat} (h : step st c = some st') (hc : c = 46) : st.2.1 ≠ 0 ∧ st.2.2 ≠ 3 ∧ st' = (0, 0, st.2.2 + 1) := by
  unfold step at h
  rw [if_pos hc] at h
  split at h
  · cases h
  · rename_i hn
    exact ⟨fun e => hn (.inl e), fun e => hn (.inr e), (Option.some.inj h).symm⟩
theorem step_digit {st st' : St} {c : Nat} (h : step st c = some st') (hc : c ≠ 46) :
    48 ≤ c ∧ c ≤ 57 ∧ ¬ (st.2.1 = 1 ∧ st.1 = 0) ∧ st.1 * 10 + (c - 48) ≤ 255 ∧ st' = (st.1 * 10 + (c - 48), st.2.1 + 1, st.2.2) := by
  unfold step at h
  rw [if_neg hc] at h
  split at h
  · cases h
  · rename_i h1
    split at h
    · cases h
    · rename_i h2
      split at h
      · cases h
      · rename_i h3
        exact ⟨by omega, by omega, h2, by omega, (Option.some.inj h).symm⟩
theorem step_letters {st st' : St} {c : Nat} (h : step st c = some st') : c = 46 ∨ (48 ≤ c ∧ c ≤ 57) := by
  by_cases hc : c = 46
  · exact .inl hc
  · obtain ⟨h1, h2, _⟩ := step_digit h hc
    exact .inr ⟨h1, h2⟩

theorem letters {l : List UInt8} (h : Ok l) (k : Nat) (hk : k < l.length) : (l[k]).toNat = 46 ∨ (48 ≤ (l[k]).toNat ∧ (l[k]).toNat ≤ 57) := by
  obtain ⟨v, m, h⟩ := h
  obtain ⟨_, _, _, h2, _⟩ := run_at h k hk
  exact step_letters h2

/-- A digit of this number has been met: there is a letter ahead, and it is no point. -/
theorem ahead {l : List UInt8} {k : Nat} (hk : k ≤ l.length) {st : St} (h : run (l.take k) (0, 0, 0) = some st) (hd : st.2.1 ≠ 0) :
    ∃ h0 : 0 < k, (l[k - 1]'(by omega)).toNat ≠ 46 := by
  rcases Nat.eq_zero_or_pos k with rfl | h0
  · simp only [List.take_zero, run] at h
    obtain rfl := Option.some.inj h
    exact absurd rfl hd
  · refine ⟨h0, fun hc => hd ?_⟩
    have e : l.take k = l.take (k - 1) ++ [l[k - 1]'(by omega)] := by
      have := take_snoc (l := l) (k := k - 1) (by omega)
      rwa [show k - 1 + 1 = k from by omega] at this
    rw [e, run_snoc] at h
    cases h1 : run (l.take (k - 1)) (0, 0, 0) with
    | none => rw [h1] at h; simp at h
    | some x =>
      rw [h1] at h
      simp only [Option.bind_some] at h
      rw [(step_point h hc).2.2]

/-- The last letter is no point. -/
theorem last {l : List UInt8} {v m p : Nat} (h : run l (0, 0, 0) = some (v, m + 1, p)) : ∃ h0 : 0 < l.length, (l[l.length - 1]'(by omega)).toNat ≠ 46 :=
  ahead (k := l.length) (Nat.le_refl _) (by rw [List.take_length]; exact h) (by simp)

/-! The numbers, one by one. -/
def num (l : List UInt8) : Nat := l.foldl (fun n c => n * 10 + (c.toNat - 48)) 0
theorem num_snoc (l : List UInt8) (c : UInt8) : num (l ++ [c]) = num l * 10 + (c.toNat - 48) := by simp [num]

theorem step_of_digit {v d p c : Nat} (h1 : 48 ≤ c) (h2 : c ≤ 57) (h3 : ¬ (d = 1 ∧ v = 0)) (h4 : v * 10 + (c - 48) ≤ 255) : step (v, d, p) c = some (v * 10 + (c - 48), d + 1, p) := by
  unfold step
  rw [if_neg (by omega), if_neg (by omega), if_neg h3, if_neg (by simp only; omega)]

theorem number {l : List UInt8} (p : Nat) (hd : ∀ k (h : k < l.length), 48 ≤ (l[k]).toNat ∧ (l[k]).toNat ≤ 57) (h0 : 0 < l.length) (h3 : l.length ≤ 3) (hv : num l ≤ 255)
    (hz : 1 < l.length → (l[0]).toNat ≠ 48) : run l (0, 0, p) = some (num l, l.length, p) := by
  match l, h0, h3 with
  | [a], _, _ =>
    have ha := hd 0 (by simp)
    simp only [List.getElem_cons_zero] at ha
    simp only [num, List.foldl_cons, List.foldl_nil] at hv ⊢
    simp only [run]
    rw [step_of_digit ha.1 ha.2 (by omega) (by omega)]
    simp
  | [a, b], _, _ =>
    have ha := hd 0 (by simp)
    have hb := hd 1 (by simp)
    have h1 := hz (by simp)
    simp only [List.getElem_cons_zero, List.getElem_cons_succ] at ha hb h1
    simp only [num, List.foldl_cons, List.foldl_nil] at hv ⊢
    simp only [run]
    rw [step_of_digit ha.1 ha.2 (by omega) (by omega)]
    simp only [Option.bind_some]
    rw [step_of_digit hb.1 hb.2 (by omega) (by omega)]
    simp
  | [a, b, c], _, _ =>
    have ha := hd 0 (by simp)
    have hb := hd 1 (by simp)
    have hc := hd 2 (by simp)
    have h1 := hz (by simp)
    simp only [List.getElem_cons_zero, List.getElem_cons_succ] at ha hb hc h1
    simp only [num, List.foldl_cons, List.foldl_nil] at hv ⊢
    simp only [run]
    rw [step_of_digit ha.1 ha.2 (by omega) (by omega)]
    simp only [Option.bind_some]
    rw [step_of_digit hb.1 hb.2 (by omega) (by omega)]
    simp only [Option.bind_some]
    rw [step_of_digit hc.1 hc.2 (by omega) (by omega)]
    simp

theorem step_bounds {st st' : St} {c : Nat} (h : step st c = some st') (h3 : st.2.2 ≤ 3) : st'.1 ≤ 255 ∧ st'.2.1 ≤ st.2.1 + 1 ∧ st'.2.2 ≤ 3 := by
  by_cases hc : c = 46
  · obtain ⟨_, b, rfl⟩ := step_point h hc
    exact ⟨by simp, by simp, by simp only; omega⟩
  · obtain ⟨_, _, _, b, rfl⟩ := step_digit h hc
    exact ⟨b, Nat.le_refl _, h3⟩
theorem run_bounds (l : List UInt8) : ∀ (st st' : St), run l st = some st' → st.1 ≤ 255 → st.2.2 ≤ 3 → st'.1 ≤ 255 ∧ st'.2.1 ≤ st.2.1 + l.length ∧ st'.2.2 ≤ 3 := by
  induction l with
  | nil =>
    intro st st' h h1 h3
    obtain rfl := Option.some.inj h
    exact ⟨h1, Nat.le_add_right _ _, h3⟩
  | cons c r ih =>
    intro st st' h h1 h3
    simp only [run] at h
    cases hs : step st c.toNat with
    | none => rw [hs] at h; simp at h
    | some x =>
      rw [hs] at h
      obtain ⟨a, b, d⟩ := step_bounds hs h3
      obtain ⟨a', b', d'⟩ := ih x st' h a d
      exact ⟨a', by simp only [List.length_cons]; omega, d'⟩

theorem no_point (l : List UInt8) : ∀ (st st' : St), run l st = some st' → (∀ c ∈ l, c.toNat ≠ 46) → st'.2.2 = st.2.2 := by
  induction l with
  | nil =>
    intro st st' h _
    rw [Option.some.inj h]
  | cons c r ih =>
    intro st st' h hn
    simp only [run] at h
    cases hs : step st c.toNat with
    | none => rw [hs] at h; simp at h
    | some x =>
      rw [hs] at h
      obtain ⟨_, _, _, _, rfl⟩ := step_digit hs (hn c List.mem_cons_self)
      exact ih (st.1 * 10 + (c.toNat - 48), st.2.1 + 1, st.2.2) st' h (fun d hd => hn d (List.mem_cons_of_mem _ hd))
end Go.Proofs.YtmfdbcfpcifmcaaGreatDoor.Ip

namespace Go.Proofs.YtmfdbcfpcifmcaaGreatDoor.Fm
open Go.Lib

/-- What the stores keep; what is left may have one digit too many. -/
structure Inv (n u k v : Nat) (d : Array UInt8) : Prop where
  size : d.size = n
  le : k ≤ n
  par : k % 2 = n % 2
  rest : v = u / 10 ^ (n - k)
  small : v < 10 ^ (k + 1)
  done : ∀ t, k ≤ t → t < n → d[t]! = dg u (n - 1 - t)

theorem Inv.start (d : Array UInt8) (u : Nat) (h : u < 10 ^ (d.size + 1)) : Inv d.size u d.size u d :=
  ⟨rfl, Nat.le_refl _, rfl, by simp, h, fun t h1 h2 => by omega⟩

theorem Inv.pair {n u k v : Nat} {d : Array UInt8} (h : Inv n u (k + 2) v d) :
    Inv n u k (v / 100) ((d.setIfInBounds (k + 1) (sm (v % 100 * 2 + 1))).setIfInBounds k (sm (v % 100 * 2))) := by
  have hle := h.le
  have hp : v % 100 < 100 := Nat.mod_lt _ (by decide)
  have hpar := h.par
  refine ⟨by simp [h.size], by omega, by omega, ?_, ?_, fun t h1 h3 => ?_⟩
  · rw [h.rest, Nat.div_div_eq_div_mul, show n - k = n - (k + 2) + 2 by omega, Nat.pow_add]
  · have hs := h.small
    rw [show k + 2 + 1 = k + 1 + 2 by omega, Nat.pow_add] at hs
    exact Nat.div_lt_of_lt_mul (by rw [Nat.mul_comm]; exact hs)
  · by_cases e2 : t = k
    · rw [e2, get_set_same _ _ _ (by simp [h.size]; omega), sm_hi _ hp]
      unfold dg
      rw [show n - 1 - k = n - (k + 2) + 1 by omega, Nat.pow_succ, ← Nat.div_div_eq_div_mul, ← h.rest]
      congr 2
      omega
    · rw [get_set_other _ _ _ _ e2]
      by_cases e1 : t = k + 1
      · rw [e1, get_set_same _ _ _ (by rw [h.size]; omega), sm_lo _ hp]
        unfold dg
        rw [show n - 1 - (k + 1) = n - (k + 2) by omega, ← h.rest]
        congr 2
        omega
      · rw [get_set_other _ _ _ _ e1]
        exact h.done t (by omega) h3

/-- The letter at place t of the row. -/
def place (n u t : Nat) : UInt8 := if t = 0 ∧ n % 2 = 1 then UInt8.ofNat (48 + u / 10 ^ (n - 1)) else dg u (n - 1 - t)
def row (n u : Nat) : Array UInt8 := ((List.range n).map (place n u)).toArray

theorem row_size (n u : Nat) : (row n u).size = n := by simp [row]

theorem eq_row {n u : Nat} {d : Array UInt8} (hs : d.size = n) (h : ∀ t, t < n → d[t]! = place n u t) : d = row n u := by
  apply Array.ext
  · simp [row, hs]
  · intro i h1 h2
    have := h i (by omega)
    rw [getElem!_pos d i h1] at this
    rw [this]
    simp [row]

theorem Inv.fin0 {n u v : Nat} {d : Array UInt8} (h : Inv n u 0 v d) : d = row n u := by
  refine eq_row h.size fun t ht => ?_
  have hp := h.par
  rw [h.done t (Nat.zero_le _) ht, place, if_neg (by omega)]

theorem Inv.fin1 {n u v : Nat} {d : Array UInt8} (h : Inv n u 1 v d) : d.setIfInBounds 0 (UInt8.ofNat (48 + v)) = row n u := by
  have hp := h.par
  have hle := h.le
  refine eq_row (by simp [h.size]) fun t ht => ?_
  by_cases e0 : t = 0
  · rw [e0, get_set_same _ _ _ (by rw [h.size]; omega), place, if_pos ⟨rfl, by omega⟩, h.rest]
  · rw [get_set_other _ _ _ _ e0, place, if_neg (by omega)]
    exact h.done t (by omega) ht

theorem Inv.lt8 {n u k v : Nat} {d : Array UInt8} (h : Inv n u k v d) (h8 : k < 8) : v < 100000000 :=
  Nat.lt_of_lt_of_le h.small (by have := Nat.pow_le_pow_right (n := 10) (by decide) (show k + 1 ≤ 8 by omega); simpa using this)
theorem Inv.lt1 {n u v : Nat} {d : Array UInt8} (h : Inv n u 1 v d) : v < 100 := by simpa using h.small

/-- How long the row is, by whatever table: its digits, or one less. -/
def len (T : Nat → Nat) (u : Nat) : Nat := l10 (Go.Lib.bitLen u) + (if T (l10 (Go.Lib.bitLen u)) ≤ u then 1 else 0)

theorem len_ok (T : Nat → Nat) (u : Nat) (h1 : 100 ≤ u) (h2 : u < 18446744073709551616) : l10 (Go.Lib.bitLen u) ≤ 19 ∧ 1 ≤ len T u ∧ len T u ≤ 20 ∧ u < 10 ^ (len T u + 1) := by
  obtain ⟨hn, h19⟩ := numDigits_eq u (by omega) h2
  have hp := lt_pow_nDigits u
  have hq : 1 ≤ l10 (Go.Lib.bitLen u) := by
    rcases Nat.eq_zero_or_pos (l10 (Go.Lib.bitLen u)) with e | e
    · rw [e] at hn
      have : nDigits u ≤ 1 := by rw [← hn]; split <;> omega
      have := Nat.pow_le_pow_right (n := 10) (by decide) this
      omega
    · exact e
  refine ⟨h19, ?_, ?_, ?_⟩
  · unfold len; omega
  · unfold len; split <;> omega
  · refine Nat.lt_of_lt_of_le hp (Nat.pow_le_pow_right (by decide) ?_)
    unfold len
    rw [← hn]
    split <;> split <;> omega

/-- The text of a number, by whatever table. -/
def text (T : Nat → Nat) (u : Nat) : ByteArray := if u < 100 then ⟨(decDigits u).toArray⟩ else ⟨row (len T u) u⟩

theorem text_size (T : Nat → Nat) (u : Nat) (h2 : u < 18446744073709551616) : 1 ≤ (text T u).size ∧ (text T u).size ≤ 20 := by
  unfold text
  split
  · rename_i h
    have e : (ByteArray.mk (decDigits u).toArray).size = (decDigits u).length := by simp [ByteArray.size]
    rw [e, decDigits_length]
    by_cases h10 : u < 10
    · rw [nDigits_small h10]; omega
    · rw [nDigits_big h10, nDigits_small (by omega)]; omega
  · have e : (ByteArray.mk (row (len T u) u)).size = len T u := row_size _ _
    obtain ⟨_, h1, h3, _⟩ := len_ok T u (by omega) h2
    omega
end Go.Proofs.YtmfdbcfpcifmcaaGreatDoor.Fm

namespace Go.Proofs.YtmfdbcfpcifmcaaGreatDoor
open Go.RowKit

/-- What a call leaves below the blocks of its start, as two rules on cells and marks. -/
theorem old_cells {W w1 : World} (hb : Below W.heap.size W w1) : (∀ b o, b < W.heap.size → w1.cell? ⟨b, o, none⟩ = W.cell? ⟨b, o, none⟩) ∧ (∀ b o, b < W.heap.size → w1.frozen? ⟨b, o, none⟩ = W.frozen? ⟨b, o, none⟩) :=
  ⟨fun b o h => hb.cell (p := ⟨b, o, none⟩) h, fun b o h => hb.frozen (p := ⟨b, o, none⟩) h⟩

/-- Two calls, one behind the other. -/
theorem below_next {B : Nat} {w w1 w2 : World} (h : Below B w w1) (k : Below w1.heap.size w1 w2) (hB : B ≤ w1.heap.size) : Below B w w2 := h.trans (k.mono hB)

theorem below_drewN {B : Nat} {a w : World} (h : Below B a w) (n : Nat) : Below B a (w.drewN n) := ⟨h.os, h.tape, h.output, h.size, h.block⟩

/-- Block g holds just these cells, of elements of type t, and may be written. -/
def Row (w : World) (g : Nat) (t : TypeId) (cs : Array Value) : Prop := w.heap[g]? = some (.cells cs t (0, 0))

namespace Row
variable {w w' : World} {g : Nat} {t : TypeId} {cs : Array Value}
theorem lt (h : Row w g t cs) : g < w.heap.size := by
  unfold Row at h
  rcases Nat.lt_or_ge g w.heap.size with hl | hl
  · exact hl
  · rw [Array.getElem?_eq_none hl] at h
    cases h
theorem cell (h : Row w g t cs) (i : Nat) : w.cell? ⟨g, i, none⟩ = cs[i]? := cell_of_row w g i cs t (0, 0) h
theorem free (h : Row w g t cs) (i : Nat) : w.frozen? ⟨g, i, none⟩ = false := by
  unfold Row at h
  simp [World.frozen?, h]
theorem new (w : World) (t : TypeId) (cs : Array Value) : Row (w.alloc (.cells cs t)) w.heap.size t cs := heap_alloc_new w _
theorem drew (h : Row w g t cs) : Row w.drew g t cs := h
theorem drewN (h : Row w g t cs) (n : Nat) : Row (w.drewN n) g t cs := h
theorem alloc (h : Row w g t cs) (o : Obj) : Row (w.alloc o) g t cs := (Below.heap_alloc w o g h.lt).trans h
theorem set (h : Row w g t cs) (i : Nat) (u : Value) : Row (w.setCell ⟨g, i, none⟩ u) g t (cs.setIfInBounds i u) := by
  unfold Row at h ⊢
  simp [World.setCell, Array.getElem?_modify, h]
theorem far (h : Row w g t cs) {p : Addr} (hp : g ≠ p.block) (u : Value) : Row (w.setCell p u) g t cs := (Below.heap_setCell w p u g hp).trans h
theorem below {B : Nat} (h : Row w g t cs) (hb : Below B w w') (hg : g < B) : Row w' g t cs := (hb.block g hg).trans h
theorem grown {row : Option Nat} (h : Row w g t cs) (hb : w.grownBy w' row) (hg : some g ≠ row) : Row w' g t cs := (hb.block g h.lt hg).trans h
end Row

theorem cell_far {w : World} {a : Addr} {v : Value} (h : w.cell? a = some v) {g : Nat} (hne : a.block ≠ g) (i : Nat) (u : Value) : (w.setCell ⟨g, i, none⟩ u).cell? a = some v :=
  (World.cell?_of_block (Below.heap_setCell w ⟨g, i, none⟩ u a.block hne)).trans h
theorem cell_other {w : World} {a b : Addr} {v : Value} (h : w.cell? a = some v) (hne : b ≠ a) (u : Value) : (w.setCell b u).cell? a = some v := (World.cell?_setCell_other w b a u hne).trans h
theorem some_ne {a b : Nat} (h : a ≠ b) : some a ≠ some b := fun e => h (Option.some.inj e)
theorem some_ge {a b : Nat} (h : b ≤ a) : ∀ k, some a = some k → b ≤ k := fun _ e => Option.some.inj e ▸ h
theorem below_al {B : Nat} {w W : World} (h : Below B w W) (hB : B ≤ w.heap.size) (o : Obj) : Below B w (W.alloc o) := h.alloc (Nat.le_trans hB h.size) o
theorem below_st {B : Nat} {w W : World} (h : Below B w W) {g : Nat} (hB : B ≤ g) (i : Nat) (u : Value) : Below B w (W.setCell ⟨g, i, none⟩ u) := h.setCell (p := ⟨g, i, none⟩) hB u
theorem i64_eq {a b : Int} (h : a = b) : Value.int .i64 a = Value.int .i64 b := by rw [h]
theorem byte_eq (s : ByteArray) (k : Nat) (_h : k < s.size) (_h2 : k < s.data.toList.length) : s[k] = s.data.toList[k] := by
  simp [ByteArray.getElem_eq_getElem_data]
theorem byte_lt (c : UInt8) : (c.toNat : Int) ≤ 255 := by have := c.toNat_lt; omega

/-! Only one block, and what is new, has turned. -/
theorem only_drew {a w : World} {row : Option Nat} (h : a.grownBy w row) : a.grownBy w.drew row := ⟨h.os, h.tape, h.output, h.size, h.block⟩
theorem only_drewN {a w : World} {row : Option Nat} (h : a.grownBy w row) (n : Nat) : a.grownBy (w.drewN n) row := ⟨h.os, h.tape, h.output, h.size, h.block⟩
theorem only_alloc {a w : World} {row : Option Nat} (h : a.grownBy w row) (o : Obj) : a.grownBy (w.alloc o) row :=
  ⟨h.os, h.tape, h.output, Nat.le_trans h.size (by simp), fun i hi hne => (Below.heap_alloc w o i (Nat.lt_of_lt_of_le hi h.size)).trans (h.block i hi hne)⟩
theorem only_set {a w : World} {g : Nat} (h : a.grownBy w (some g)) (i : Nat) (u : Value) : a.grownBy (w.setCell ⟨g, i, none⟩ u) (some g) :=
  ⟨h.os, h.tape, h.output, by simpa [World.setCell] using h.size, fun j hj hne => (Below.heap_setCell w ⟨g, i, none⟩ u j (fun e => hne (by rw [e]))).trans (h.block j hj hne)⟩
theorem only_below {a w w1 : World} {row : Option Nat} (h : a.grownBy w row) (hb : Below w.heap.size w w1) : a.grownBy w1 row :=
  ⟨hb.os.trans h.os, hb.tape.trans h.tape, hb.output.trans h.output, Nat.le_trans h.size hb.size, fun i hi hne => (hb.block i (Nat.lt_of_lt_of_le hi h.size)).trans (h.block i hi hne)⟩
end Go.Proofs.YtmfdbcfpcifmcaaGreatDoor

namespace Go.Proofs.YtmfdbcfpcifmcaaGreatDoor
open Go.RowKit

/-- The array of four numbers, some bytes in it. -/
def Four (w : World) (g : Nat) : Prop := ∃ a b c d : Int, Row w g 199 #[.int .u8 a, .int .u8 b, .int .u8 c, .int .u8 d]
theorem four_set {w : World} {g i : Nat} (h : Four w g) (hi : i < 4) (x : Int) : Four (w.setCell ⟨g, i, none⟩ (.int .u8 x)) g := by
  obtain ⟨a, b, c, d, h⟩ := h
  have h' := h.set i (.int .u8 x)
  match i, hi with
  | 0, _ => exact ⟨x, b, c, d, h'⟩
  | 1, _ => exact ⟨a, x, c, d, h'⟩
  | 2, _ => exact ⟨a, b, x, d, h'⟩
  | 3, _ => exact ⟨a, b, c, x, h'⟩

set_option maxRecDepth 100000 in
set_option maxHeartbeats 1000000 in
theorem fields_ok (s : ByteArray) (hs : s.size ≤ maxLen) (hok : Ip.Ok s.data.toList) (g : Nat) (w : World) (hg : Four w g) :
    Calls Tryz.prog 101 #[.string s, .int .i64 0, .int .i64 s.size, .slice (some ⟨g, 0, none⟩) 4 4] w fun e w' => e = .returned .nilIface ∧ w.grownBy w' (some g) ∧ Four w' g := by
  unfold maxLen at hs
  obtain ⟨fv, fm, hrun⟩ := hok
  have hlen : s.data.toList.length = s.size := by simp
  have HR := Lib.hid hrun
  have HL := Lib.hid hlen
  clear hrun hlen
  go_enter Tryz.func101, Tryz.ntmps101
  go_wp2_with fail
  go_loopw [9, 10, 11, 13] (fun v p d i wr => ∃ (k n m q : Nat), k ≤ s.size ∧ n ≤ 255 ∧ m ≤ k ∧ q ≤ 3 ∧ v = .int .i64 n ∧ p = .int .i64 q ∧ d = .int .i64 m ∧ i = .int .i64 k ∧ Hid (Ip.run (s.data.toList.take k) (0, 0, 0) = some (n, m, q)) ∧ w.grownBy wr (some g) ∧ Four wr g) (fun _ _ _ i _ => s.size - (intOf i).toNat)
  case atStart => exact ⟨0, 0, 0, 0, by omega, by omega, by omega, by omega, rfl, rfl, rfl, rfl, rfl, ⟨rfl, rfl, rfl, Nat.le_refl _, fun _ _ _ => rfl⟩, hg⟩
  case round =>
    obtain ⟨k, n, m, q, hk, hn, hm, hq, rfl, rfl, rfl, rfl, HK, hgr, h4⟩ := hrel
    by_cases hlt : k < s.size
    · obtain ⟨st, st', h1, h2, h3⟩ := Ip.run_at HR.out k (by rw [HL.out]; exact hlt)
      rw [HK.out] at h1
      obtain rfl := Option.some.inj h1
      have hb : s[k] = s.data.toList[k]'(by rw [HL.out]; exact hlt) := byte_eq s k hlt _
      rw [← hb] at h2
      by_cases hc : s[k].toNat = 46
      · obtain ⟨e1, e2, rfl⟩ := Ip.step_point h2 hc
        simp only at e1 e2 h3
        obtain ⟨p0, p1⟩ := Ip.ahead (k := k) (by rw [HL.out]; exact hk) HK.out e1
        obtain ⟨l0, l1⟩ := Ip.last HR.out
        have hne : k ≠ s.size - 1 := by
          intro e
          apply l1
          rw [← hc, hb]
          congr 2
          rw [HL.out, e]
        have hb' : s[k - 1]'(by omega) = s.data.toList[k - 1]'(by rw [HL.out]; omega) := byte_eq s (k - 1) (by omega) _
        rw [← hb'] at p1
        have c1 : ((s[k].toNat : Int) == 46) = true := by simp; omega
        have c2 : ((s[k].toNat : Int)) < 48 := by omega
        have c3 : ((k : Int) == 0) = false := by simp; omega
        have c4 : ((k : Int) == (s.size : Int) - 1) = false := by simp; omega
        have c5 : (((s[k - 1]'(by omega)).toNat : Int) == 46) = false := by simp; omega
        have c6 : ((q : Int) == 3) = false := by simp; omega
        have c7 : (1 : Int) ≤ k := by omega
        have q3 : q = 0 ∨ q = 1 ∨ q = 2 := by omega
        have H3 := Lib.hid h3
        clear h1 h2 h3 hb hb' hc e1 e2 hne l1 p1 l0 c6
        obtain ⟨x0, x1, x2, x3, hx⟩ := id h4
        rcases q3 with rfl | rfl | rfl
        · have hcell := hx.cell 0
          have hfree := hx.free 0
          clear hx
          go_wp2_with fail
          go_roundw
          case rel => exact ⟨k + 1, 0, 0, 1, by omega, by omega, by omega, by omega, rfl, rfl, rfl, by go_num, H3.out, only_set hgr 0 _, four_set (i := 0) h4 (by omega) _⟩
          case measure => simp [intOf]; omega
        · have hcell := hx.cell 1
          have hfree := hx.free 1
          clear hx
          go_wp2_with fail
          go_roundw
          case rel => exact ⟨k + 1, 0, 0, 2, by omega, by omega, by omega, by omega, rfl, rfl, rfl, by go_num, H3.out, only_set hgr 1 _, four_set (i := 1) h4 (by omega) _⟩
          case measure => simp [intOf]; omega
        · have hcell := hx.cell 2
          have hfree := hx.free 2
          clear hx
          go_wp2_with fail
          go_roundw
          case rel => exact ⟨k + 1, 0, 0, 3, by omega, by omega, by omega, by omega, rfl, rfl, rfl, by go_num, H3.out, only_set hgr 2 _, four_set (i := 2) h4 (by omega) _⟩
          case measure => simp [intOf]; omega
      · obtain ⟨d1, d2, d3, d4, rfl⟩ := Ip.step_digit h2 hc
        simp only at d3 d4 h3
        have c1 : (48 : Int) ≤ (s[k].toNat : Int) := by omega
        have c2 : (s[k].toNat : Int) ≤ 57 := by omega
        have c3 : (n : Int) * 10 + (s[k].toNat : Int) - 48 ≤ 255 := by omega
        have H3 := Lib.hid h3
        clear h1 h2 h3 hb hc
        by_cases m1 : m = 1
        · subst m1
          have n0 : ((n : Int) == 0) = false := by simp; omega
          clear d1 d2 d3 d4
          go_wp2_with fail
          go_roundw
          case rel => exact ⟨k + 1, n * 10 + (s[k].toNat - 48), 1 + 1, q, by omega, by omega, by omega, hq, i64_eq (by omega), rfl, rfl, by go_num, H3.out, hgr, h4⟩
          case measure => simp [intOf]; omega
        · have m1' : ((m : Int) == 1) = false := by simp; omega
          clear d1 d2 d3 d4
          go_wp2_with fail
          go_roundw
          case rel => exact ⟨k + 1, n * 10 + (s[k].toNat - 48), m + 1, q, by omega, by omega, by omega, hq, i64_eq (by omega), rfl, by go_num, by go_num, H3.out, hgr, h4⟩
          case measure => simp [intOf]; omega
    · obtain rfl : k = s.size := by omega
      have hfull := HR.out
      have hk' := HK.out
      rw [List.take_of_length_le (by rw [HL.out]; exact Nat.le_refl _)] at hk'
      rw [hfull] at hk'
      obtain ⟨rfl, rfl, rfl⟩ : fv = n ∧ fm + 1 = m ∧ 3 = q := by simpa using hk'
      obtain ⟨x0, x1, x2, x3, hx⟩ := id h4
      have hcell := hx.cell 3
      have hfree := hx.free 3
      clear hx hfull hk'
      go_wp2_with fail
      go_ret
      exact ⟨rfl, only_set hgr 3 _, four_set (i := 3) h4 (by omega) _⟩
end Go.Proofs.YtmfdbcfpcifmcaaGreatDoor

namespace Go.Proofs.YtmfdbcfpcifmcaaGreatDoor
open Go.RowKit

/-- What package netip's three variables hold: z4, z6noz point to blocks of their own, z0 is nil. -/
structure Glob (w : World) (p4 p6 : Addr) : Prop where
  z4 : w.cell? ⟨0, 0, none⟩ = some (.pointer (some p4))
  z6 : w.cell? ⟨2, 0, none⟩ = some (.pointer (some p6))
  z0 : w.cell? ⟨4, 0, none⟩ = some (.pointer none)
  ne : p4 ≠ p6
  b4 : ∃ c t, w.heap[p4.block]? = some (.cells c t (0, 0))
  b6 : ∃ c t, w.heap[p6.block]? = some (.cells c t (0, 0))

theorem lt_of_some {w : World} {b : Nat} {o : Obj} (h : w.heap[b]? = some o) : b < w.heap.size := by
  rcases Nat.lt_or_ge b w.heap.size with hl | hl
  · exact hl
  · rw [Array.getElem?_eq_none hl] at h
    cases h

theorem Glob.below {w w' : World} {p4 p6 : Addr} (h : Glob w p4 p6) (hb : Below w.heap.size w w') : Glob w' p4 p6 := by
  obtain ⟨c4, t4, h4⟩ := h.b4
  obtain ⟨c6, t6, h6⟩ := h.b6
  exact ⟨(hb.cell (World.block_lt_of_cell? _ _ h.z4)).trans h.z4, (hb.cell (World.block_lt_of_cell? _ _ h.z6)).trans h.z6, (hb.cell (World.block_lt_of_cell? _ _ h.z0)).trans h.z0, h.ne,
    ⟨c4, t4, (hb.block _ (lt_of_some h4)).trans h4⟩, ⟨c6, t6, (hb.block _ (lt_of_some h6)).trans h6⟩⟩

/-- An address of package netip by its cells. -/
def addrV (hi lo : Int) (p : Addr) : Value := .agg #[.int .u64 hi, .int .u64 lo, .pointer (some p)]
def IsAddr4 (p4 : Addr) (e : Ending) : Prop := ∃ lo : Int, e = .returned (addrV 0 lo p4)

set_option maxRecDepth 100000 in
set_option maxHeartbeats 400000 in
theorem from4 (a b c d : Int) (w : World) (p4 p6 : Addr) (hG : Glob w p4 p6) :
    Calls Tryz.prog 102 #[.agg #[.int .u8 a, .int .u8 b, .int .u8 c, .int .u8 d]] w fun e w' => IsAddr4 p4 e ∧ Below w.heap.size w w' := by
  have hz := hG.z4
  have hlt : 0 < w.heap.size := World.block_lt_of_cell? _ _ hG.z4
  clear hG
  go_enter Tryz.func102, Tryz.ntmps102
  go_wp2
  refine bodyPost_ret (v := ?v) ?h1 rfl ?h2
  case h1 =>
    simp [results, Tryz.results102, go_sem]
    rfl
  case h2 => exact ⟨⟨_, rfl⟩, below_al (below_al (Below.refl _ _) (Nat.le_refl _) _) (Nat.le_refl _) _⟩

def IsAddr4Ok (p4 : Addr) (e : Ending) : Prop := ∃ lo : Int, e = .returned (.tuple #[addrV 0 lo p4, .nilIface])

set_option maxRecDepth 100000 in
set_option maxHeartbeats 400000 in
theorem parse4 (s : ByteArray) (hs : s.size ≤ maxLen) (hok : Ip.Ok s.data.toList) (w : World) (p4 p6 : Addr) (hG : Glob w p4 p6) :
    Calls Tryz.prog 89 #[.string s] w fun e w' => IsAddr4Ok p4 e ∧ Below w.heap.size w w' := by
  have hs' := hs
  unfold maxLen at hs'
  go_enter Tryz.func89, Tryz.ntmps89
  go_wp2_with fail
  refine (fields_ok s hs hok (w.heap.size + 1) _ ?hF).mono ?_
  case hF => exact ⟨0, 0, 0, 0, by simpa using Row.new (w.alloc (.cells #[.int .u64 0, .int .u64 0, .pointer none] 154)) 199 #[.int .u8 0, .int .u8 0, .int .u8 0, .int .u8 0]⟩
  rintro e w1 ⟨rfl, hg, a, b, c, d, hr⟩
  have hsz := hg.size
  have h0 := hr.cell 0
  have h1 := hr.cell 1
  have h2 := hr.cell 2
  have h3 := hr.cell 3
  have hb1 : Below w.heap.size w w1 := (below_al (below_al (Below.refl _ _) (Nat.le_refl _) (.cells #[.int .u64 0, .int .u64 0, .pointer none] 154)) (Nat.le_refl _) (.cells #[.int .u8 0, .int .u8 0, .int .u8 0, .int .u8 0] 199)).grown hg (by simp; omega) (some_ge (by omega))
  have hr0 : Row w1 w.heap.size 154 #[.int .u64 0, .int .u64 0, .pointer none] :=
    ((Row.new w 154 #[.int .u64 0, .int .u64 0, .pointer none]).alloc (.cells #[.int .u8 0, .int .u8 0, .int .u8 0, .int .u8 0] 199)).grown hg (some_ne (by omega))
  have hs1 := hb1.size
  go_wp2_with fail
  refine (from4 a b c d _ p4 p6 (hG.below hb1)).mono ?_
  rintro e w2 ⟨⟨lo, rfl⟩, hb2⟩
  have hr2 := hr0.below hb2 hr0.lt
  have q0 := hr2.cell 0
  have q1 := hr2.cell 1
  have q2 := hr2.cell 2
  have f0 := hr2.free 0
  have f1 := hr2.free 1
  have f2 := hr2.free 2
  clear hr2 hr0 hr
  simp only [addrV]
  go_wp2_with fail
  refine bodyPost_ret (v := .tuple #[addrV 0 lo p4, .nilIface]) ?h1 rfl ⟨⟨lo, rfl⟩, ?h2⟩
  case h1 => simp [results, Tryz.results89, go_sem, q0, q1, q2, addrV]
  case h2 => exact below_st (below_st (below_st (below_next hb1 hb2 hs1) (Nat.le_refl _) _ _) (Nat.le_refl _) _ _) (Nat.le_refl _) _ _

set_option maxRecDepth 100000 in
set_option maxHeartbeats 400000 in
theorem parseAddr4 (s : ByteArray) (hs : s.size ≤ maxLen) (hok : Ip.Ok s.data.toList) (w : World) (p4 p6 : Addr) (hG : Glob w p4 p6) :
    Calls Tryz.prog 76 #[.string s] w fun e w' => IsAddr4Ok p4 e ∧ Below w.heap.size w w' := by
  have hs' := hs
  unfold maxLen at hs'
  have HL := Lib.hid (show s.data.toList.length = s.size by simp)
  go_enter Tryz.func76, Tryz.ntmps76
  go_wp2_with fail
  go_loop [4] (fun i => ∃ k : Nat, k ≤ s.size ∧ i = .int .i64 k ∧ Hid (∀ c ∈ s.data.toList.take k, c.toNat ≠ 46)) (fun i => s.size - (intOf i).toNat)
  case atStart => exact ⟨0, Nat.zero_le _, rfl, by simp [Hid]⟩
  case round =>
    obtain ⟨k, hk, rfl, HN⟩ := hrel
    by_cases hlt : k < s.size
    · have hk' : k < s.data.toList.length := by rw [HL.out]; exact hlt
      have hb : s[k] = s.data.toList[k] := byte_eq s k hlt _
      have hlet := Ip.letters hok k hk'
      rw [← hb] at hlet
      by_cases hc : s[k].toNat = 46
      · have c1 : ((s[k].toNat : Int) == 46) = true := by simp; omega
        clear hc hlet hb
        go_wp2_with fail
        refine (parse4 s hs hok _ p4 p6 (hG.below (below_al (Below.refl _ _) (Nat.le_refl _) _))).mono ?_
        rintro e w1 ⟨⟨lo, rfl⟩, hb1⟩
        have hr : Row w1 w.heap.size 154 #[.int .u64 0, .int .u64 0, .pointer none] := (Row.new w 154 _).below hb1 (by simp)
        have q0 := hr.cell 0
        have q1 := hr.cell 1
        have q2 := hr.cell 2
        have f0 := hr.free 0
        have f1 := hr.free 1
        have f2 := hr.free 2
        clear hr
        simp only [addrV]
        go_wp2_with fail
        refine bodyPost_ret (v := .tuple #[addrV 0 lo p4, .nilIface]) ?h1 rfl ⟨⟨lo, rfl⟩, ?h2⟩
        case h1 => simp [results, Tryz.results76, go_sem, q0, q1, q2, addrV]
        case h2 => exact below_st (below_st (below_st ((below_al (Below.refl _ _) (Nat.le_refl _) (.cells #[.int .u64 0, .int .u64 0, .pointer none] 154)).trans (hb1.mono (by simp))) (Nat.le_refl _) _ _) (Nat.le_refl _) _ _) (Nat.le_refl _) _ _
      · have d : 48 ≤ s[k].toNat ∧ s[k].toNat ≤ 57 := by omega
        have c1 : ((s[k].toNat : Int) == 46) = false := by simp; omega
        have c2 : ((s[k].toNat : Int) == 58) = false := by simp; omega
        have c3 : ((s[k].toNat : Int) == 37) = false := by simp; omega
        have HN' : Hid (∀ c ∈ s.data.toList.take (k + 1), c.toNat ≠ 46) := by
          intro c hm
          rw [Ip.take_snoc hk'] at hm
          rcases List.mem_append.1 hm with hm | hm
          · exact HN.out c hm
          · rw [List.mem_singleton.1 hm, ← hb]
            exact hc
        clear hc hlet hb d
        go_wp2_with fail
        go_round
        case rel => exact ⟨k + 1, by omega, by go_num, HN'⟩
        case measure => simp [intOf]; omega
    · exfalso
      obtain rfl : k = s.size := by omega
      obtain ⟨v, m, hr⟩ := hok
      have := HN.out
      rw [List.take_of_length_le (by rw [HL.out]; exact Nat.le_refl _)] at this
      have := Ip.no_point _ _ _ hr this
      simp at this
end Go.Proofs.YtmfdbcfpcifmcaaGreatDoor

namespace Go.Proofs.YtmfdbcfpcifmcaaGreatDoor
open Go.RowKit

/-- Eight bytes as a number, as the code reckons it. -/
def be8 (b0 b1 b2 b3 b4 b5 b6 b7 : Int) : Int :=
  bits BinOp.or IntKind.u64
    (bits BinOp.or IntKind.u64
      (bits BinOp.or IntKind.u64
        (bits BinOp.or IntKind.u64
          (bits BinOp.or IntKind.u64
            (bits BinOp.or IntKind.u64
              (bits BinOp.or IntKind.u64 (IntKind.u64.wrap b7) (IntKind.u64.wrap (IntKind.u64.wrap b6 * 256)))
              (IntKind.u64.wrap (IntKind.u64.wrap b5 * 65536)))
            (IntKind.u64.wrap (IntKind.u64.wrap b4 * 16777216)))
          (IntKind.u64.wrap (IntKind.u64.wrap b3 * 4294967296)))
        (IntKind.u64.wrap (IntKind.u64.wrap b2 * 1099511627776)))
      (IntKind.u64.wrap (IntKind.u64.wrap b1 * 281474976710656)))
    (IntKind.u64.wrap (IntKind.u64.wrap b0 * 72057594037927936))

set_option maxRecDepth 100000 in
set_option maxHeartbeats 2000000 in
theorem be64 (b0 b1 b2 b3 b4 b5 b6 b7 : Int) (g o c : Nat) (w : World) (_hc : 8 ≤ c)
    (h0 : w.cell? ⟨g, o, none⟩ = some (.int .u8 b0)) (h1 : w.cell? ⟨g, o + 1, none⟩ = some (.int .u8 b1)) (h2 : w.cell? ⟨g, o + 2, none⟩ = some (.int .u8 b2)) (h3 : w.cell? ⟨g, o + 3, none⟩ = some (.int .u8 b3))
    (h4 : w.cell? ⟨g, o + 4, none⟩ = some (.int .u8 b4)) (h5 : w.cell? ⟨g, o + 5, none⟩ = some (.int .u8 b5)) (h6 : w.cell? ⟨g, o + 6, none⟩ = some (.int .u8 b6)) (h7 : w.cell? ⟨g, o + 7, none⟩ = some (.int .u8 b7)) :
    Calls Tryz.prog 117 #[.slice (some ⟨g, o, none⟩) 8 c] w fun e w' => e = .returned (.int .u64 (be8 b0 b1 b2 b3 b4 b5 b6 b7)) ∧ ∃ n, w' = w.drewN n := by
  go_enter Tryz.func117, Tryz.ntmps117
  go_wp2
  go_quiet (fail)
  go_wp2
  go_ret
  exact ⟨rfl, _, rfl⟩

theorem be64a (a0 a1 a2 a3 a4 a5 a6 a7 a8 a9 a10 a11 a12 a13 a14 a15 : Int) (g : Nat) (w : World) (hr : Row w g 203 #[.int .u8 a0, .int .u8 a1, .int .u8 a2, .int .u8 a3, .int .u8 a4, .int .u8 a5, .int .u8 a6, .int .u8 a7, .int .u8 a8, .int .u8 a9, .int .u8 a10, .int .u8 a11, .int .u8 a12, .int .u8 a13, .int .u8 a14, .int .u8 a15]) :
    Calls Tryz.prog 117 #[.slice (some ⟨g, 0, none⟩) 8 16] w fun e w' => e = .returned (.int .u64 (be8 a0 a1 a2 a3 a4 a5 a6 a7)) ∧ ∃ n, w' = w.drewN n :=
  be64 a0 a1 a2 a3 a4 a5 a6 a7 g 0 16 w (by omega) (hr.cell 0) (hr.cell 1) (hr.cell 2) (hr.cell 3) (hr.cell 4) (hr.cell 5) (hr.cell 6) (hr.cell 7)
theorem be64b (a0 a1 a2 a3 a4 a5 a6 a7 a8 a9 a10 a11 a12 a13 a14 a15 : Int) (g : Nat) (w : World) (hr : Row w g 203 #[.int .u8 a0, .int .u8 a1, .int .u8 a2, .int .u8 a3, .int .u8 a4, .int .u8 a5, .int .u8 a6, .int .u8 a7, .int .u8 a8, .int .u8 a9, .int .u8 a10, .int .u8 a11, .int .u8 a12, .int .u8 a13, .int .u8 a14, .int .u8 a15]) :
    Calls Tryz.prog 117 #[.slice (some ⟨g, 8, none⟩) 8 8] w fun e w' => e = .returned (.int .u64 (be8 a8 a9 a10 a11 a12 a13 a14 a15)) ∧ ∃ n, w' = w.drewN n :=
  be64 a8 a9 a10 a11 a12 a13 a14 a15 g 8 8 w (by omega) (hr.cell 8) (hr.cell 9) (hr.cell 10) (hr.cell 11) (hr.cell 12) (hr.cell 13) (hr.cell 14) (hr.cell 15)

set_option maxRecDepth 100000 in
set_option maxHeartbeats 2000000 in
theorem from16 (a0 a1 a2 a3 a4 a5 a6 a7 a8 a9 a10 a11 a12 a13 a14 a15 : Int) (w : World) (p4 p6 : Addr) (hG : Glob w p4 p6) :
    Calls Tryz.prog 106 #[.agg #[.int .u8 a0, .int .u8 a1, .int .u8 a2, .int .u8 a3, .int .u8 a4, .int .u8 a5, .int .u8 a6, .int .u8 a7, .int .u8 a8, .int .u8 a9, .int .u8 a10, .int .u8 a11, .int .u8 a12, .int .u8 a13, .int .u8 a14, .int .u8 a15]] w
      fun e w' => e = .returned (addrV (be8 a0 a1 a2 a3 a4 a5 a6 a7) (be8 a8 a9 a10 a11 a12 a13 a14 a15) p6) ∧ Below w.heap.size w w' := by
  go_enter Tryz.func106, Tryz.ntmps106
  go_wp2_with fail
  have hb0 : Below w.heap.size w ((w.alloc (.cells #[.int .u8 a0, .int .u8 a1, .int .u8 a2, .int .u8 a3, .int .u8 a4, .int .u8 a5, .int .u8 a6, .int .u8 a7, .int .u8 a8, .int .u8 a9, .int .u8 a10, .int .u8 a11, .int .u8 a12, .int .u8 a13, .int .u8 a14, .int .u8 a15] 203)).alloc (.cells #[.int .u64 0, .int .u64 0, .pointer none] 154)) := below_al (below_al (Below.refl _ _) (Nat.le_refl _) _) (Nat.le_refl _) _
  have hz := (hG.below hb0).z6
  have hr : Row ((w.alloc (.cells #[.int .u8 a0, .int .u8 a1, .int .u8 a2, .int .u8 a3, .int .u8 a4, .int .u8 a5, .int .u8 a6, .int .u8 a7, .int .u8 a8, .int .u8 a9, .int .u8 a10, .int .u8 a11, .int .u8 a12, .int .u8 a13, .int .u8 a14, .int .u8 a15] 203)).alloc (.cells #[.int .u64 0, .int .u64 0, .pointer none] 154)) w.heap.size 203 _ := (Row.new w 203 _).alloc _
  have hq : Row ((w.alloc (.cells #[.int .u8 a0, .int .u8 a1, .int .u8 a2, .int .u8 a3, .int .u8 a4, .int .u8 a5, .int .u8 a6, .int .u8 a7, .int .u8 a8, .int .u8 a9, .int .u8 a10, .int .u8 a11, .int .u8 a12, .int .u8 a13, .int .u8 a14, .int .u8 a15] 203)).alloc (.cells #[.int .u64 0, .int .u64 0, .pointer none] 154)) (w.heap.size + 1) 154 #[.int .u64 0, .int .u64 0, .pointer none] := by simpa using Row.new (w.alloc (.cells #[.int .u8 a0, .int .u8 a1, .int .u8 a2, .int .u8 a3, .int .u8 a4, .int .u8 a5, .int .u8 a6, .int .u8 a7, .int .u8 a8, .int .u8 a9, .int .u8 a10, .int .u8 a11, .int .u8 a12, .int .u8 a13, .int .u8 a14, .int .u8 a15] 203)) 154 #[.int .u64 0, .int .u64 0, .pointer none]
  generalize (w.alloc (.cells #[.int .u8 a0, .int .u8 a1, .int .u8 a2, .int .u8 a3, .int .u8 a4, .int .u8 a5, .int .u8 a6, .int .u8 a7, .int .u8 a8, .int .u8 a9, .int .u8 a10, .int .u8 a11, .int .u8 a12, .int .u8 a13, .int .u8 a14, .int .u8 a15] 203)).alloc (.cells #[.int .u64 0, .int .u64 0, .pointer none] 154) = W at *
  have n2 : (⟨2, 0, none⟩ : Addr).block ≠ w.heap.size + 1 := by have := World.block_lt_of_cell? _ _ hG.z6; simp only at this ⊢; omega
  have n3 : w.heap.size ≠ w.heap.size + 1 := by omega
  have q0 := hq.cell 0
  have q1 := hq.cell 1
  have q2 := hq.cell 2
  have f0 := hq.free 0
  have f1 := hq.free 1
  have f2 := hq.free 2
  go_region_held3 (fun w' => w'.cell? ⟨2, 0, none⟩ = some (.pointer (some p6)) ∧ Row w' w.heap.size 203 #[.int .u8 a0, .int .u8 a1, .int .u8 a2, .int .u8 a3, .int .u8 a4, .int .u8 a5, .int .u8 a6, .int .u8 a7, .int .u8 a8, .int .u8 a9, .int .u8 a10, .int .u8 a11, .int .u8 a12, .int .u8 a13, .int .u8 a14, .int .u8 a15]) (first | exact ⟨hz, hr⟩ | exact ⟨hz, hr.drewN _⟩ | exact ⟨cell_far (cell_far (cell_far (show (W.drewN _).cell? ⟨2, 0, none⟩ = _ from hz) n2 _ _) n2 _ _) n2 _ _, (((hr.drewN _).far n3 _).far n3 _).far n3 _⟩)
    (first
      | (go_at_call_of 117 (Value.slice (some ⟨w.heap.size, 0, none⟩) 8 16); refine (be64a a0 a1 a2 a3 a4 a5 a6 a7 a8 a9 a10 a11 a12 a13 a14 a15 w.heap.size _ (hr.drewN _)).mono ?_; rintro e w' ⟨rfl, n, rfl⟩)
      | (go_at_call_of 117 (Value.slice (some ⟨w.heap.size, 8, none⟩) 8 8); refine (be64b a0 a1 a2 a3 a4 a5 a6 a7 a8 a9 a10 a11 a12 a13 a14 a15 w.heap.size _ (hr.drewN _)).mono ?_; rintro e w' ⟨rfl, n, rfl⟩))
  go_wp2_with fail
  refine bodyPost_ret (v := addrV (be8 a0 a1 a2 a3 a4 a5 a6 a7) (be8 a8 a9 a10 a11 a12 a13 a14 a15) p6) ?h1 rfl ⟨rfl, ?h2⟩
  case h1 => simp [results, Tryz.results106, go_sem, q0, q1, q2, addrV]
  case h2 => exact below_st (below_st (below_st (below_drewN hb0 _) (by omega) _ _) (by omega) _ _) (by omega) _ _
end Go.Proofs.YtmfdbcfpcifmcaaGreatDoor

namespace Go.Proofs.YtmfdbcfpcifmcaaGreatDoor
open Go.RowKit

theorem size214 : ∀ w, (sizeOf 214).run Tryz.prog w = .ok 2 w := fun _ => by kernel_rfl
theorem ptr_same_d (d : Nat) (w : World) (a : Addr) : (Op.equalIn (d + 1) 150 (.pointer (some a)) (.pointer (some a))).run Tryz.prog w = .ok true w := by
  simp [Op.equalIn, run_underlying Tryz.underlying150, size214 w, run_sameAddr_same]
theorem ptr_none_d (d : Nat) (w : World) (a : Addr) : (Op.equalIn (d + 1) 150 (.pointer (some a)) (.pointer none)).run Tryz.prog w = .ok false w := by
  simp [Op.equalIn, run_underlying Tryz.underlying150]
theorem ptr_other_d (d : Nat) (w : World) {a b : Addr} (hne : a ≠ b) (ha : ∃ c t, w.heap[a.block]? = some (.cells c t (0, 0))) (hb : ∃ c t, w.heap[b.block]? = some (.cells c t (0, 0))) :
    (Op.equalIn (d + 1) 150 (.pointer (some a)) (.pointer (some b))).run Tryz.prog w = .ok false w := by
  obtain ⟨c, t, ha⟩ := ha
  obtain ⟨d, u, hb⟩ := hb
  simp [Op.equalIn, run_underlying Tryz.underlying150, size214 w, run_sameAddr_other w hne ha hb]
theorem ptr_same (a : Addr) : ∀ w, (Op.equalIn 9999 150 (.pointer (some a)) (.pointer (some a))).run Tryz.prog w = .ok true w := fun w => ptr_same_d 9998 w a
theorem ptr_none (a : Addr) : ∀ w, (Op.equalIn 9999 150 (.pointer (some a)) (.pointer none)).run Tryz.prog w = .ok false w := fun w => ptr_none_d 9998 w a
theorem Glob.ptr_64 {w : World} {p4 p6 : Addr} (h : Glob w p4 p6) : (Op.equalIn 9999 150 (.pointer (some p6)) (.pointer (some p4))).run Tryz.prog w = .ok false w := ptr_other_d 9998 w h.ne.symm h.b6 h.b4

theorem Glob.lt4 {w : World} {p4 p6 : Addr} (h : Glob w p4 p6) : 4 < w.heap.size := World.block_lt_of_cell? _ _ h.z0
theorem Glob.al {w : World} {p4 p6 : Addr} (h : Glob w p4 p6) (o : Obj) : Glob (w.alloc o) p4 p6 := h.below (below_al (Below.refl _ _) (Nat.le_refl _) o)

set_option maxRecDepth 100000 in
set_option maxHeartbeats 400000 in
theorem is6_4 (hi lo : Int) (w : World) (p4 p6 : Addr) (hG : Glob w p4 p6) :
    Calls Tryz.prog 115 #[addrV hi lo p4] w fun e w' => e = .returned (.bool false) ∧ Below w.heap.size w w' := by
  have h0 := hG.z0
  have h4 := hG.z4
  have hn := ptr_none p4
  have hm := ptr_same p4
  have hlt := hG.lt4
  have hlt0 : 0 < w.heap.size := by omega
  clear hG
  unfold addrV
  go_enter Tryz.func115, Tryz.ntmps115
  go_wp2
  go_ret
  exact ⟨rfl, below_al (Below.refl _ _) (Nat.le_refl _) _⟩

set_option maxRecDepth 100000 in
set_option maxHeartbeats 400000 in
theorem is6_6 (hi lo : Int) (w : World) (p4 p6 : Addr) (hG : Glob w p4 p6) :
    Calls Tryz.prog 115 #[addrV hi lo p6] w fun e w' => e = .returned (.bool true) ∧ Below w.heap.size w w' := by
  have h0 := hG.z0
  have h4 := hG.z4
  have hn := ptr_none p6
  have hm := (hG.al (.cells #[.int .u64 hi, .int .u64 lo, .pointer (some p6)] 154)).ptr_64
  have hlt := hG.lt4
  have hlt0 : 0 < w.heap.size := by omega
  clear hG
  unfold addrV
  go_enter Tryz.func115, Tryz.ntmps115
  go_wp2
  go_ret
  exact ⟨rfl, below_al (Below.refl _ _) (Nat.le_refl _) _⟩

set_option maxRecDepth 100000 in
set_option maxHeartbeats 400000 in
theorem is4_4 (hi lo : Int) (w : World) (p4 p6 : Addr) (hG : Glob w p4 p6) :
    Calls Tryz.prog 93 #[addrV hi lo p4] w fun e w' => e = .returned (.bool true) ∧ Below w.heap.size w w' := by
  have h4 := hG.z4
  have hm := ptr_same p4
  have hlt := hG.lt4
  have hlt0 : 0 < w.heap.size := by omega
  clear hG
  unfold addrV
  go_enter Tryz.func93, Tryz.ntmps93
  go_wp2
  go_ret
  exact ⟨rfl, below_al (Below.refl _ _) (Nat.le_refl _) _⟩

set_option maxRecDepth 100000 in
set_option maxHeartbeats 400000 in
theorem is4_6 (hi lo : Int) (w : World) (p4 p6 : Addr) (hG : Glob w p4 p6) :
    Calls Tryz.prog 93 #[addrV hi lo p6] w fun e w' => e = .returned (.bool false) ∧ Below w.heap.size w w' := by
  have h4 := hG.z4
  have hm := (hG.al (.cells #[.int .u64 hi, .int .u64 lo, .pointer (some p6)] 154)).ptr_64
  have hlt := hG.lt4
  have hlt0 : 0 < w.heap.size := by omega
  clear hG
  unfold addrV
  go_enter Tryz.func93, Tryz.ntmps93
  go_wp2
  go_ret
  exact ⟨rfl, below_al (Below.refl _ _) (Nat.le_refl _) _⟩

/-- No address of IPv4 lies in this one of IPv6. -/
def Own6 (hi lo : Int) : Prop := (hi == 0) = false ∨ hi = 0 ∧ lo = 1

set_option maxRecDepth 100000 in
set_option maxHeartbeats 400000 in
theorem in6_4 (hi lo : Int) (w : World) (p4 p6 : Addr) (hG : Glob w p4 p6) :
    Calls Tryz.prog 107 #[addrV hi lo p4] w fun e w' => e = .returned (.bool false) ∧ Below w.heap.size w w' := by
  have hb := below_al (Below.refl w.heap.size w) (Nat.le_refl _) (.cells #[.int .u64 hi, .int .u64 lo, .pointer (some p4)] 154)
  have hA := hG.al (.cells #[.int .u64 hi, .int .u64 lo, .pointer (some p4)] 154)
  show Calls Tryz.prog 107 #[.agg #[.int .u64 hi, .int .u64 lo, .pointer (some p4)]] w _
  go_enter Tryz.func107, Tryz.ntmps107
  go_wp2_with fail
  refine (is6_4 hi lo _ p4 p6 hA).mono ?_
  rintro e w1 ⟨rfl, hb1⟩
  go_wp2_with fail
  go_ret
  exact ⟨rfl, below_next hb hb1 (by simp)⟩

set_option maxRecDepth 100000 in
set_option maxHeartbeats 400000 in
theorem in6_6 (hi lo : Int) (ho : Own6 hi lo) (w : World) (p4 p6 : Addr) (hG : Glob w p4 p6) :
    Calls Tryz.prog 107 #[addrV hi lo p6] w fun e w' => e = .returned (.bool false) ∧ Below w.heap.size w w' := by
  rcases ho with ho | ⟨rfl, rfl⟩
  · have hb := below_al (Below.refl w.heap.size w) (Nat.le_refl _) (.cells #[.int .u64 hi, .int .u64 lo, .pointer (some p6)] 154)
    have hA := hG.al (.cells #[.int .u64 hi, .int .u64 lo, .pointer (some p6)] 154)
    show Calls Tryz.prog 107 #[.agg #[.int .u64 hi, .int .u64 lo, .pointer (some p6)]] w _
    go_enter Tryz.func107, Tryz.ntmps107
    go_wp2_with fail
    refine (is6_6 hi lo _ p4 p6 hA).mono ?_
    rintro e w1 ⟨rfl, hb1⟩
    have hr : Row w1 w.heap.size 154 #[.int .u64 hi, .int .u64 lo, .pointer (some p6)] := (Row.new w 154 _).below hb1 (by simp)
    have q0 := hr.cell 0
    have q1 := hr.cell 1
    go_wp2_with fail
    go_ret
    exact ⟨rfl, below_next hb hb1 (by simp)⟩
  · have hb := below_al (Below.refl w.heap.size w) (Nat.le_refl _) (.cells #[.int .u64 0, .int .u64 1, .pointer (some p6)] 154)
    have hA := hG.al (.cells #[.int .u64 0, .int .u64 1, .pointer (some p6)] 154)
    show Calls Tryz.prog 107 #[.agg #[.int .u64 0, .int .u64 1, .pointer (some p6)]] w _
    go_enter Tryz.func107, Tryz.ntmps107
    go_wp2_with fail
    refine (is6_6 0 1 _ p4 p6 hA).mono ?_
    rintro e w1 ⟨rfl, hb1⟩
    have hr : Row w1 w.heap.size 154 #[.int .u64 0, .int .u64 1, .pointer (some p6)] := (Row.new w 154 _).below hb1 (by simp)
    have q0 := hr.cell 0
    have q1 := hr.cell 1
    go_wp2_with fail
    go_ret
    exact ⟨rfl, below_next hb hb1 (by simp)⟩

/-- What the two blocks of such a function hold behind a call of its own. -/
theorem two_rows {w w1 : World} {cs ds : Array Value} {t u : TypeId} (hb : Below ((w.alloc (.cells cs t)).alloc (.cells ds u)).heap.size ((w.alloc (.cells cs t)).alloc (.cells ds u)) w1) :
    Row w1 w.heap.size t cs ∧ Row w1 (w.heap.size + 1) u ds ∧ w.heap.size + 2 ≤ w1.heap.size := by
  refine ⟨((Row.new w t cs).alloc _).below hb (by simp; omega), ?_, by have := hb.size; simp at this; omega⟩
  have h := (Row.new (w.alloc (.cells cs t)) u ds).below hb (by simp)
  simpa using h

set_option maxRecDepth 100000 in
set_option maxHeartbeats 400000 in
theorem unmap_any (hi lo : Int) (p : Addr) (w : World) (p4 p6 : Addr) (hG : Glob w p4 p6)
    (hin : ∀ W : World, Glob W p4 p6 → Calls Tryz.prog 107 #[addrV hi lo p] W fun e w' => e = .returned (.bool false) ∧ Below W.heap.size W w') :
    Calls Tryz.prog 91 #[addrV hi lo p] w fun e w' => e = .returned (addrV hi lo p) ∧ Below w.heap.size w w' := by
  have hb := below_al (below_al (Below.refl w.heap.size w) (Nat.le_refl _) (.cells #[.int .u64 hi, .int .u64 lo, .pointer (some p)] 154)) (Nat.le_refl _) (.cells #[.int .u64 0, .int .u64 0, .pointer none] 154)
  have hA := hG.below hb
  show Calls Tryz.prog 91 #[.agg #[.int .u64 hi, .int .u64 lo, .pointer (some p)]] w _
  have HI := Lib.hid hin
  clear hin
  go_enter Tryz.func91, Tryz.ntmps91
  go_wp2_with fail
  refine (HI.out _ hA).mono ?_
  rintro e w1 ⟨rfl, hb1⟩
  obtain ⟨hr, hq, hsz⟩ := two_rows hb1
  have r0 := hr.cell 0
  have r1 := hr.cell 1
  have r2 := hr.cell 2
  have q0 := hq.cell 0
  have q1 := hq.cell 1
  have q2 := hq.cell 2
  have f0 := hq.free 0
  have f1 := hq.free 1
  have f2 := hq.free 2
  clear hr hq
  go_wp2_with fail
  refine bodyPost_ret (v := addrV hi lo p) ?h1 rfl ⟨rfl, ?h2⟩
  case h1 => simp [results, Tryz.results91, go_sem, q0, q1, q2, addrV]
  case h2 => exact below_st (below_st (below_st (below_next hb hb1 (by simp; omega)) (by omega) _ _) (by omega) _ _) (by omega) _ _

theorem unmap4 (hi lo : Int) (w : World) (p4 p6 : Addr) (hG : Glob w p4 p6) : Calls Tryz.prog 91 #[addrV hi lo p4] w fun e w' => e = .returned (addrV hi lo p4) ∧ Below w.heap.size w w' :=
  unmap_any hi lo p4 w p4 p6 hG fun W h => in6_4 hi lo W p4 p6 h
theorem unmap6 (hi lo : Int) (ho : Own6 hi lo) (w : World) (p4 p6 : Addr) (hG : Glob w p4 p6) : Calls Tryz.prog 91 #[addrV hi lo p6] w fun e w' => e = .returned (addrV hi lo p6) ∧ Below w.heap.size w w' :=
  unmap_any hi lo p6 w p4 p6 hG fun W h => in6_6 hi lo ho W p4 p6 h

set_option maxRecDepth 100000 in
set_option maxHeartbeats 400000 in
theorem noZone (hi lo : Int) (w : World) (p4 p6 : Addr) (hG : Glob w p4 p6) :
    Calls Tryz.prog 105 #[addrV hi lo p6, .string ⟨#[]⟩] w fun e w' => e = .returned (addrV hi lo p6) ∧ Below w.heap.size w w' := by
  have hb := below_al (below_al (Below.refl w.heap.size w) (Nat.le_refl _) (.cells #[.int .u64 hi, .int .u64 lo, .pointer (some p6)] 154)) (Nat.le_refl _) (.cells #[.int .u64 0, .int .u64 0, .pointer none] 154)
  have hA := hG.below hb
  show Calls Tryz.prog 105 #[.agg #[.int .u64 hi, .int .u64 lo, .pointer (some p6)], .string ⟨#[]⟩] w _
  go_enter Tryz.func105, Tryz.ntmps105
  go_wp2_with fail
  refine (is6_6 hi lo _ p4 p6 hA).mono ?_
  rintro e w1 ⟨rfl, hb1⟩
  obtain ⟨hr, hq, hsz⟩ := two_rows hb1
  have z6 := (hA.below hb1).z6
  have hlt := (hA.below hb1).lt4
  have hlt2 : 2 < w.heap.size := by have := hG.lt4; omega
  have r0 := hr.cell 0
  have r1 := hr.cell 1
  have r2 := hr.cell 2
  have s2 := hr.free 2
  have q0 := hq.cell 0
  have q1 := hq.cell 1
  have q2 := hq.cell 2
  have f0 := hq.free 0
  have f1 := hq.free 1
  have f2 := hq.free 2
  clear hr hq hlt hA
  go_wp2_with fail
  refine bodyPost_ret (v := addrV hi lo p6) ?h1 rfl ⟨rfl, ?h2⟩
  case h1 => simp [results, Tryz.results105, go_sem, q0, q1, q2, addrV]
  case h2 => exact below_st (below_st (below_st (below_st (below_next hb hb1 (by simp; omega)) (by omega) _ _) (by omega) _ _) (by omega) _ _) (by omega) _ _

/-- An address with its port by its cells. -/
def addrPortV (hi lo : Int) (p : Addr) (port : Int) : Value := .agg #[.int .u64 hi, .int .u64 lo, .pointer (some p), .int .u16 port]

set_option maxRecDepth 100000 in
set_option maxHeartbeats 400000 in
theorem addrPortFrom (hi lo : Int) (p : Addr) (port : Int) (w : World) :
    Calls Tryz.prog 79 #[addrV hi lo p, .int .u16 port] w fun e w' => e = .returned (addrPortV hi lo p port) ∧ Below w.heap.size w w' := by
  show Calls Tryz.prog 79 #[.agg #[.int .u64 hi, .int .u64 lo, .pointer (some p)], .int .u16 port] w _
  go_enter Tryz.func79, Tryz.ntmps79
  go_wp2
  refine bodyPost_ret (v := addrPortV hi lo p port) ?h1 rfl ⟨rfl, ?h2⟩
  case h1 => simp [results, Tryz.results79, go_sem, addrPortV]
  case h2 => exact below_al (below_al (Below.refl _ _) (Nat.le_refl _) _) (Nat.le_refl _) _
end Go.Proofs.YtmfdbcfpcifmcaaGreatDoor
