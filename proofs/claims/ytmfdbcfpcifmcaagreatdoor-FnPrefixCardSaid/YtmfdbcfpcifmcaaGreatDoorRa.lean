/- A text as its words, and what the package's readers make of them. (Joined by mkread.py.) -/
import Derived.Test.YtmfdbcfpcifmcaaGreatDoorMh
import Derived.Test.YtmfdbcfpcifmcaaGreatDoorTextW
import Derived.Test.YtmfdbcfpcifmcaaGreatDoorRefl
import Derived.Test.YtmfdbcfpcifmcaaGreatDoorMc
import Derived.Test.YtmfdbcfpcifmcaaGreatDoorMe
import Derived.Lib.Strings
namespace Go.Proofs.YtmfdbcfpcifmcaaGreatDoor
open Go.RowKit

theorem tenSet {w : World} {g : Nat} {T : TypeId} {z0 z1 z2 z3 z4 z5 z6 z7 z8 z9 : Value} (h : Row w g T #[z0, z1, z2, z3, z4, z5, z6, z7, z8, z9]) (v0 v1 v2 v3 v4 v5 v6 v7 v8 v9 : Value) :
    Row ((((((((((w.setCell ⟨g, 0, none⟩ v0).setCell ⟨g, 1, none⟩ v1).setCell ⟨g, 2, none⟩ v2).setCell ⟨g, 3, none⟩ v3).setCell ⟨g, 4, none⟩ v4).setCell ⟨g, 5, none⟩ v5).setCell ⟨g, 6, none⟩ v6).setCell ⟨g, 7, none⟩ v7).setCell ⟨g, 8, none⟩ v8).setCell ⟨g, 9, none⟩ v9) g T #[v0, v1, v2, v3, v4, v5, v6, v7, v8, v9] := by
  have h0 : Row (w.setCell ⟨g, 0, none⟩ v0) g T #[v0, z1, z2, z3, z4, z5, z6, z7, z8, z9] := h.set 0 v0
  have h1 : Row ((w.setCell ⟨g, 0, none⟩ v0).setCell ⟨g, 1, none⟩ v1) g T #[v0, v1, z2, z3, z4, z5, z6, z7, z8, z9] := h0.set 1 v1
  have h2 : Row (((w.setCell ⟨g, 0, none⟩ v0).setCell ⟨g, 1, none⟩ v1).setCell ⟨g, 2, none⟩ v2) g T #[v0, v1, v2, z3, z4, z5, z6, z7, z8, z9] := h1.set 2 v2
  have h3 : Row ((((w.setCell ⟨g, 0, none⟩ v0).setCell ⟨g, 1, none⟩ v1).setCell ⟨g, 2, none⟩ v2).setCell ⟨g, 3, none⟩ v3) g T #[v0, v1, v2, v3, z4, z5, z6, z7, z8, z9] := h2.set 3 v3
  have h4 : Row (((((w.setCell ⟨g, 0, none⟩ v0).setCell ⟨g, 1, none⟩ v1).setCell ⟨g, 2, none⟩ v2).setCell ⟨g, 3, none⟩ v3).setCell ⟨g, 4, none⟩ v4) g T #[v0, v1, v2, v3, v4, z5, z6, z7, z8, z9] := h3.set 4 v4
  have h5 : Row ((((((w.setCell ⟨g, 0, none⟩ v0).setCell ⟨g, 1, none⟩ v1).setCell ⟨g, 2, none⟩ v2).setCell ⟨g, 3, none⟩ v3).setCell ⟨g, 4, none⟩ v4).setCell ⟨g, 5, none⟩ v5) g T #[v0, v1, v2, v3, v4, v5, z6, z7, z8, z9] := h4.set 5 v5
  have h6 : Row (((((((w.setCell ⟨g, 0, none⟩ v0).setCell ⟨g, 1, none⟩ v1).setCell ⟨g, 2, none⟩ v2).setCell ⟨g, 3, none⟩ v3).setCell ⟨g, 4, none⟩ v4).setCell ⟨g, 5, none⟩ v5).setCell ⟨g, 6, none⟩ v6) g T #[v0, v1, v2, v3, v4, v5, v6, z7, z8, z9] := h5.set 6 v6
  have h7 : Row ((((((((w.setCell ⟨g, 0, none⟩ v0).setCell ⟨g, 1, none⟩ v1).setCell ⟨g, 2, none⟩ v2).setCell ⟨g, 3, none⟩ v3).setCell ⟨g, 4, none⟩ v4).setCell ⟨g, 5, none⟩ v5).setCell ⟨g, 6, none⟩ v6).setCell ⟨g, 7, none⟩ v7) g T #[v0, v1, v2, v3, v4, v5, v6, v7, z8, z9] := h6.set 7 v7
  have h8 : Row (((((((((w.setCell ⟨g, 0, none⟩ v0).setCell ⟨g, 1, none⟩ v1).setCell ⟨g, 2, none⟩ v2).setCell ⟨g, 3, none⟩ v3).setCell ⟨g, 4, none⟩ v4).setCell ⟨g, 5, none⟩ v5).setCell ⟨g, 6, none⟩ v6).setCell ⟨g, 7, none⟩ v7).setCell ⟨g, 8, none⟩ v8) g T #[v0, v1, v2, v3, v4, v5, v6, v7, v8, z9] := h7.set 8 v8
  have h9 : Row ((((((((((w.setCell ⟨g, 0, none⟩ v0).setCell ⟨g, 1, none⟩ v1).setCell ⟨g, 2, none⟩ v2).setCell ⟨g, 3, none⟩ v3).setCell ⟨g, 4, none⟩ v4).setCell ⟨g, 5, none⟩ v5).setCell ⟨g, 6, none⟩ v6).setCell ⟨g, 7, none⟩ v7).setCell ⟨g, 8, none⟩ v8).setCell ⟨g, 9, none⟩ v9) g T #[v0, v1, v2, v3, v4, v5, v6, v7, v8, v9] := h8.set 9 v9
  exact h9
theorem tenBelow {a w : World} {B g : Nat} (h : Below B a w) (hB : B ≤ g) (v0 v1 v2 v3 v4 v5 v6 v7 v8 v9 : Value) : Below B a ((((((((((w.setCell ⟨g, 0, none⟩ v0).setCell ⟨g, 1, none⟩ v1).setCell ⟨g, 2, none⟩ v2).setCell ⟨g, 3, none⟩ v3).setCell ⟨g, 4, none⟩ v4).setCell ⟨g, 5, none⟩ v5).setCell ⟨g, 6, none⟩ v6).setCell ⟨g, 7, none⟩ v7).setCell ⟨g, 8, none⟩ v8).setCell ⟨g, 9, none⟩ v9) := (below_st (below_st (below_st (below_st (below_st (below_st (below_st (below_st (below_st (below_st h hB 0 v0) hB 1 v1) hB 2 v2) hB 3 v3) hB 4 v4) hB 5 v5) hB 6 v6) hB 7 v7) hB 8 v8) hB 9 v9)
end Go.Proofs.YtmfdbcfpcifmcaaGreatDoor

namespace Go.Proofs.YtmfdbcfpcifmcaaGreatDoor
open Go.RowKit
theorem tok_end (raw : ByteArray) : Tok raw raw.size raw.size := ⟨Nat.le_refl _, Nat.le_refl _, fun _ _ h1 h2 => absurd h2 (by omega), fun h => absurd h (Nat.lt_irrefl _)⟩
end Go.Proofs.YtmfdbcfpcifmcaaGreatDoor

namespace Go.Proofs.YtmfdbcfpcifmcaaGreatDoor
open Go.RowKit
theorem ok_ne {l : List UInt8} (h : Ip.Ok l) : 0 < l.length := by
  obtain ⟨v, m, hr⟩ := h
  exact (Ip.last hr).1
theorem addr_pos {six : Bool} {s : ByteArray} (h : addrText six s) : 0 < s.size := by
  cases six with
  | false =>
    have := ok_ne (show Ip.Ok s.data.toList from h)
    have e : s.data.toList.length = s.size := Array.length_toList
    omega
  | true => rcases h with rfl | rfl | rfl | rfl | rfl <;> decide
end Go.Proofs.YtmfdbcfpcifmcaaGreatDoor

namespace Go.Proofs.YtmfdbcfpcifmcaaGreatDoor
open Go.RowKit Go.Proofs.YtmfdbcfpcifmcaaGreatDoor.PFnFormat

def join : List (List UInt8) → List UInt8 → List UInt8
  | [], r => r
  | w :: ws, r => w ++ 32 :: join ws r
def sAt (ws : List (List UInt8)) : Nat → Nat
  | 0 => 0
  | k + 1 => sAt ws k + (ws.getD k []).length + 1
def eAt (ws : List (List UInt8)) (k : Nat) : Nat := sAt ws k + (ws.getD k []).length

theorem join_drop (ws : List (List UInt8)) (r : List UInt8) (k : Nat) (hk : k < ws.length) : join (ws.drop k) r = ws.getD k [] ++ 32 :: join (ws.drop (k + 1)) r := by
  rw [List.drop_eq_getElem_cons hk]
  have : ws.getD k [] = ws[k] := by rw [List.getD_eq_getElem?_getD, List.getElem?_eq_getElem hk]; rfl
  rw [this]
  rfl
theorem drop_sAt (ws : List (List UInt8)) (r : List UInt8) (k : Nat) (hk : k ≤ ws.length) : (join ws r).drop (sAt ws k) = join (ws.drop k) r := by
  induction k with
  | zero => rfl
  | succ k ih =>
    show (join ws r).drop (sAt ws k + (ws.getD k []).length + 1) = _
    rw [Nat.add_assoc, ← List.drop_drop, ih (by omega), join_drop ws r k (by omega)]
    rw [List.drop_append]
    simp

theorem getD_lt {l : List UInt8} {i : Nat} (h : i < l.length) : l.getD i 0 = l[i] := by
  rw [List.getD_eq_getElem?_getD, List.getElem?_eq_getElem h]
  rfl

/-- The letters of a text, by its list. -/
theorem bt_drop (t : ByteArray) (a i : Nat) : bt t (a + i) = ((t.data.toList.drop a).getD i 0).toNat := by
  unfold bt
  rw [List.getD_eq_getElem?_getD, List.getD_eq_getElem?_getD, List.getElem?_drop]

theorem bt_word {t : ByteArray} {ws : List (List UInt8)} {r : List UInt8} (ht : t.data.toList = join ws r) (k : Nat) (hk : k < ws.length) (i : Nat) (hi : i < (ws.getD k []).length) : bt t (sAt ws k + i) = ((ws.getD k []).getD i 0).toNat := by
  rw [bt_drop, ht, drop_sAt ws r k (by omega), join_drop ws r k hk, List.getD_eq_getElem?_getD, List.getElem?_append_left hi, ← List.getD_eq_getElem?_getD]
theorem bt_space {t : ByteArray} {ws : List (List UInt8)} {r : List UInt8} (ht : t.data.toList = join ws r) (k : Nat) (hk : k < ws.length) : bt t (eAt ws k) = 32 := by
  unfold eAt
  rw [bt_drop, ht, drop_sAt ws r k (by omega), join_drop ws r k hk, List.getD_eq_getElem?_getD, List.getElem?_append_right (Nat.le_refl _)]
  simp
theorem size_gt {t : ByteArray} {ws : List (List UInt8)} {r : List UInt8} (ht : t.data.toList = join ws r) (k : Nat) (hk : k < ws.length) : eAt ws k < t.size := by
  have e1 : t.data.toList.length = t.size := Array.length_toList
  have e2 := congrArg List.length (drop_sAt ws r k (by omega))
  rw [join_drop ws r k hk, List.length_drop, List.length_append, ← ht, e1, List.length_cons] at e2
  unfold eAt
  omega
theorem word_all {t : ByteArray} {ws : List (List UInt8)} {r : List UInt8} (ht : t.data.toList = join ws r) (k : Nat) (hk : k < ws.length) {P : UInt8 → Prop} (h : ∀ c ∈ ws.getD k [], P c) (j : Nat) (h1 : sAt ws k ≤ j) (h2 : j < eAt ws k) : ∃ c, P c ∧ bt t j = c.toNat := by
  unfold eAt at h2
  have hb := bt_word ht k hk (j - sAt ws k) (by omega)
  rw [show sAt ws k + (j - sAt ws k) = j by omega] at hb
  refine ⟨_, h _ ?_, hb⟩
  rw [getD_lt (show j - sAt ws k < (ws.getD k []).length by omega)]
  exact List.getElem_mem _

/-! Numbers. -/
def valOf (l : List UInt8) : Nat := l.foldl (fun n c => n * 10 + (c.toNat - 48)) 0
theorem valOf_snoc (l : List UInt8) (c : UInt8) : valOf (l ++ [c]) = valOf l * 10 + (c.toNat - 48) := by simp [valOf]
theorem dec_val (u : Nat) : valOf (Lib.decDigits u) = u := by
  induction u using Nat.strongRecOn with
  | _ u ih =>
    by_cases h : u < 10
    · rw [Lib.decDigits_one h]
      simp [valOf]
      omega
    · rw [Lib.decDigits, dif_neg h, valOf_snoc, ih (u / 10) (by omega)]
      simp
      omega
theorem dec_digit (u : Nat) : ∀ c ∈ Lib.decDigits u, 48 ≤ c.toNat ∧ c.toNat ≤ 57 := by
  induction u using Nat.strongRecOn with
  | _ u ih =>
    by_cases h : u < 10
    · rw [Lib.decDigits_one h]
      intro c hc
      simp at hc
      subst hc
      simp
      omega
    · rw [Lib.decDigits, dif_neg h]
      intro c hc
      rcases List.mem_append.1 hc with hc | hc
      · exact ih (u / 10) (by omega) c hc
      · simp at hc
        subst hc
        simp
        omega
theorem dec_len (k u : Nat) (h : u < 10 ^ (k + 1)) : (Lib.decDigits u).length ≤ k + 1 := by
  rw [Lib.decDigits_length]
  induction k generalizing u with
  | zero => rw [Lib.nDigits_small (by simpa using h)]; omega
  | succ k ih =>
    by_cases h10 : u < 10
    · rw [Lib.nDigits_small h10]; omega
    · rw [Lib.nDigits_big h10]
      have := ih (u / 10) (by rw [Nat.pow_succ] at h; omega)
      omega
theorem dec_pos (u : Nat) : 0 < (Lib.decDigits u).length := by
  rw [Lib.decDigits_length]
  exact Lib.nDigits_pos u
theorem num_word {t : ByteArray} {ws : List (List UInt8)} {r : List UInt8} (ht : t.data.toList = join ws r) (k : Nat) (hk : k < ws.length) : numTo t (sAt ws k) (ws.getD k []).length = valOf (ws.getD k []) := by
  have h : ∀ i, i ≤ (ws.getD k []).length → numTo t (sAt ws k) i = valOf ((ws.getD k []).take i) := by
    intro i hi
    induction i with
    | zero => rfl
    | succ i ih =>
      have hlt : i < (ws.getD k []).length := by omega
      show numTo t (sAt ws k) i * 10 + (bt t (sAt ws k + i) - 48) = _
      rw [ih (by omega), bt_word ht k hk i hlt, List.take_succ_eq_append_getElem hlt, valOf_snoc, getD_lt hlt]
  rw [h _ (Nat.le_refl _), List.take_length]

end Go.Proofs.YtmfdbcfpcifmcaaGreatDoor

namespace Go.Proofs.YtmfdbcfpcifmcaaGreatDoor
open Go.RowKit Go.Proofs.YtmfdbcfpcifmcaaGreatDoor.PFnFormat

theorem fold_app {α : Type} (f : ByteArray → α → ByteArray) (g : α → ByteArray) (hf : ∀ t x, f t x = t ++ g x) (l : List α) : ∀ t, ∃ r, l.foldl f t = t ++ r := by
  induction l with
  | nil => intro t; exact ⟨⟨#[]⟩, by apply ByteArray.ext; simp⟩
  | cons a l ih =>
    intro t
    obtain ⟨r, hr⟩ := ih (f t a)
    exact ⟨g a ++ r, by rw [List.foldl_cons, hr, hf]; apply ByteArray.ext; simp⟩

def wordsOf (tcpB : Bool) (found : ByteArray) (comp prio : Nat) (addr : ByteArray) (port : Nat) : List (List UInt8) :=
  [found.data.toList, Lib.decDigits comp, (trStr tcpB).data.toList, Lib.decDigits prio, addr.data.toList, Lib.decDigits port, [116, 121, 112]]

theorem text_join (k : Nat) (tcpB : Bool) (tt : Int) (found : ByteArray) (comp prio : Nat) (addr : ByteArray) (port : Nat) (rels : List S60) (exts : List S63) :
    ∃ r, (textOf k tcpB tt found comp prio addr port rels exts).data.toList = join (wordsOf tcpB found comp prio addr port) r := by
  obtain ⟨r1, h1⟩ := fold_app relAdd (fun x => ⟨#[32, 114, 97, 100, 100, 114, 32]⟩ ++ x.f0 ++ ⟨#[32, 114, 112, 111, 114, 116, 32]⟩ ++ decStr x.f1.toNat) (fun _ _ => rfl) rels (headOf k tcpB found comp prio addr port)
  obtain ⟨r2, h2⟩ : ∃ r, tcpAdd (rels.foldl relAdd (headOf k tcpB found comp prio addr port)) tt = rels.foldl relAdd (headOf k tcpB found comp prio addr port) ++ r := by
    unfold tcpAdd
    split
    · exact ⟨⟨#[]⟩, by apply ByteArray.ext; simp⟩
    · exact ⟨_, rfl⟩
  obtain ⟨r3, h3⟩ := fold_app extAdd (fun x => ⟨#[32]⟩ ++ x.f0 ++ ⟨#[32]⟩ ++ x.f1) (fun _ _ => rfl) exts (tcpAdd (rels.foldl relAdd (headOf k tcpB found comp prio addr port)) tt)
  refine ⟨(kindStr k).data.toList ++ (r1.data.toList ++ (r2.data.toList ++ r3.data.toList)), ?_⟩
  unfold textOf
  rw [h3, h2, h1]
  unfold headOf wordsOf decStr
  simp [join]

theorem word_mem {s : ByteArray} {m : Int} (h : Word s m) : ∀ c ∈ s.data.toList, isCh c.toNat := by
  intro c hc
  obtain ⟨i, hi, rfl⟩ := List.mem_iff_getElem.1 hc
  have e1 : s.data.toList.length = s.size := Array.length_toList
  have := h.2.2 i (by omega)
  have e2 : s.data.toList[i] = s[i]'(by omega) := by simp; rfl
  rw [e2]
  exact this
theorem addr_mem {six : Bool} {s : ByteArray} (h : addrText six s) : ∀ c ∈ s.data.toList, c.toNat < 128 ∧ c.toNat ≠ 32 ∧ c.toNat ≠ 37 := by
  cases six with
  | false =>
    intro c hc
    obtain ⟨i, hi, rfl⟩ := List.mem_iff_getElem.1 hc
    have := Ip.letters (show Ip.Ok s.data.toList from h) i hi
    omega
  | true => rcases h with rfl | rfl | rfl | rfl | rfl <;> decide
theorem addr_len {six : Bool} {s : ByteArray} (h : addrText six s) : 0 < s.data.toList.length := by
  have := addr_pos h
  have e1 : s.data.toList.length = s.size := Array.length_toList
  omega

end Go.Proofs.YtmfdbcfpcifmcaaGreatDoor

namespace Go.Proofs.YtmfdbcfpcifmcaaGreatDoor
open Go.RowKit

def unw : List (List UInt8) → List UInt8
  | [] => []
  | [w] => w
  | w :: v :: ws => w ++ 32 :: unw (v :: ws)

theorem unw_drop (ws : List (List UInt8)) (k : Nat) (hk : k < ws.length) : unw (ws.drop k) = ws.getD k [] ++ (if k + 1 < ws.length then 32 :: unw (ws.drop (k + 1)) else []) := by
  rw [List.drop_eq_getElem_cons hk]
  have e : ws.getD k [] = ws[k] := by rw [List.getD_eq_getElem?_getD, List.getElem?_eq_getElem hk]; rfl
  rw [e]
  by_cases h : k + 1 < ws.length
  · rw [if_pos h, List.drop_eq_getElem_cons h]
    rfl
  · rw [if_neg h, List.drop_eq_nil_of_le (by omega)]
    simp [unw]
theorem unw_sAt (ws : List (List UInt8)) (k : Nat) (hk : k < ws.length) : (unw ws).drop (sAt ws k) = unw (ws.drop k) := by
  induction k with
  | zero => rfl
  | succ k ih =>
    show (unw ws).drop (sAt ws k + (ws.getD k []).length + 1) = _
    rw [Nat.add_assoc, ← List.drop_drop, ih (by omega), unw_drop ws k (by omega), if_pos hk, List.drop_append]
    simp

/-- The text is these words. -/
structure WordsIn (raw : ByteArray) (ws : List (List UInt8)) : Prop where
  eq : raw.data.toList = unw ws
  ok : ∀ w ∈ ws, 0 < w.length ∧ ∀ c ∈ w, 33 ≤ c.toNat ∧ c.toNat < 128

variable {raw : ByteArray} {ws : List (List UInt8)}

theorem WordsIn.getD_ok (h : WordsIn raw ws) (k : Nat) (hk : k < ws.length) : 0 < (ws.getD k []).length ∧ ∀ c ∈ ws.getD k [], 33 ≤ c.toNat ∧ c.toNat < 128 := by
  have e : ws.getD k [] = ws[k] := by rw [List.getD_eq_getElem?_getD, List.getElem?_eq_getElem hk]; rfl
  rw [e]
  exact h.ok _ (List.getElem_mem _)
theorem WordsIn.dropAt (h : WordsIn raw ws) (k : Nat) (hk : k < ws.length) : raw.data.toList.drop (sAt ws k) = ws.getD k [] ++ (if k + 1 < ws.length then 32 :: unw (ws.drop (k + 1)) else []) := by
  rw [h.eq, unw_sAt ws k hk, unw_drop ws k hk]
theorem WordsIn.bt_word (h : WordsIn raw ws) (k : Nat) (hk : k < ws.length) (i : Nat) (hi : i < (ws.getD k []).length) : bt raw (sAt ws k + i) = ((ws.getD k []).getD i 0).toNat := by
  rw [bt_drop, h.dropAt k hk, List.getD_eq_getElem?_getD, List.getElem?_append_left hi, ← List.getD_eq_getElem?_getD]
theorem WordsIn.bt_space (h : WordsIn raw ws) (k : Nat) (hk : k + 1 < ws.length) : bt raw (eAt ws k) = 32 := by
  unfold eAt
  rw [bt_drop, h.dropAt k (by omega), List.getD_eq_getElem?_getD, List.getElem?_append_right (Nat.le_refl _), if_pos hk]
  simp
theorem WordsIn.size_lt (h : WordsIn raw ws) (k : Nat) (hk : k + 1 < ws.length) : eAt ws k < raw.size := by
  have e1 : raw.data.toList.length = raw.size := Array.length_toList
  have e2 := congrArg List.length (h.dropAt k (by omega))
  rw [List.length_drop, List.length_append, e1, if_pos hk, List.length_cons] at e2
  unfold eAt
  omega
theorem WordsIn.size_eq (h : WordsIn raw ws) (k : Nat) (hk : k + 1 = ws.length) : eAt ws k = raw.size := by
  have e1 : raw.data.toList.length = raw.size := Array.length_toList
  have e2 := congrArg List.length (h.dropAt k (by omega))
  have := (h.getD_ok k (by omega)).1
  rw [List.length_drop, List.length_append, e1, if_neg (by omega), List.length_nil] at e2
  unfold eAt
  omega
theorem WordsIn.size_le (h : WordsIn raw ws) (k : Nat) (hk : k < ws.length) : eAt ws k ≤ raw.size := by
  by_cases e : k + 1 < ws.length
  · exact Nat.le_of_lt (h.size_lt k e)
  · exact Nat.le_of_eq (h.size_eq k (by omega))
theorem WordsIn.start_lt (h : WordsIn raw ws) (k : Nat) (hk : k < ws.length) : sAt ws k < raw.size := by
  have h1 := h.size_le k hk
  have h2 := (h.getD_ok k hk).1
  unfold eAt at h1
  omega
theorem WordsIn.all (h : WordsIn raw ws) (k : Nat) (hk : k < ws.length) {P : UInt8 → Prop} (hP : ∀ c ∈ ws.getD k [], P c) (j : Nat) (h1 : sAt ws k ≤ j) (h2 : j < eAt ws k) : ∃ c, P c ∧ bt raw j = c.toNat := by
  unfold eAt at h2
  have hb := h.bt_word k hk (j - sAt ws k) (by omega)
  rw [show sAt ws k + (j - sAt ws k) = j by omega] at hb
  refine ⟨_, hP _ ?_, hb⟩
  rw [getD_lt (show j - sAt ws k < (ws.getD k []).length by omega)]
  exact List.getElem_mem _

/-- Where word k begins; behind the last one: the end. -/
def posn (raw : ByteArray) (ws : List (List UInt8)) (k : Nat) : Nat := if k < ws.length then sAt ws k else raw.size

theorem WordsIn.posn_lt (h : WordsIn raw ws) (k : Nat) (hk : k < ws.length) : posn raw ws k < raw.size := by
  unfold posn
  rw [if_pos hk]
  exact h.start_lt k hk
theorem posn_end (raw : ByteArray) (ws : List (List UInt8)) (k : Nat) (hk : ws.length ≤ k) : posn raw ws k = raw.size := by
  unfold posn
  rw [if_neg (by omega)]
theorem WordsIn.posn_le (h : WordsIn raw ws) (k : Nat) : posn raw ws k ≤ raw.size := by
  by_cases hk : k < ws.length
  · exact Nat.le_of_lt (h.posn_lt k hk)
  · exact Nat.le_of_eq (posn_end raw ws k (by omega))
theorem WordsIn.next (h : WordsIn raw ws) (k : Nat) (hk : k < ws.length) : nextPos raw (eAt ws k) = posn raw ws (k + 1) := by
  unfold nextPos posn
  by_cases e : k + 1 < ws.length
  · rw [if_pos (h.size_lt k e), if_pos e]
    rfl
  · rw [if_neg (by have := h.size_eq k (by omega); omega), if_neg e]
theorem WordsIn.tok (h : WordsIn raw ws) (k : Nat) (hk : k < ws.length) : Tok raw (posn raw ws k) (eAt ws k) := by
  have hs := h.size_le k hk
  unfold posn
  rw [if_pos hk]
  refine ⟨by unfold eAt; omega, hs, fun j hj h1 h2 => ?_, fun hlt => ?_⟩
  · obtain ⟨c, hc, hb⟩ := h.all k hk (h.getD_ok k hk).2 j h1 h2
    rw [bt_at raw j hj, hb]
    omega
  · rw [bt_at raw _ hlt]
    refine h.bt_space k ?_
    by_cases e : k + 1 < ws.length
    · exact e
    · have := h.size_eq k (by omega)
      omega
theorem WordsIn.word (h : WordsIn raw ws) (k : Nat) (hk : k < ws.length) : raw.extract (posn raw ws k) (eAt ws k) = ⟨(ws.getD k []).toArray⟩ := by
  apply ByteArray.ext
  apply Array.toList_inj.1
  unfold posn
  rw [if_pos hk, Lib.extract_data, h.dropAt k hk]
  unfold eAt
  simp
theorem WordsIn.rest (h : WordsIn raw ws) (k : Nat) (hk : k < ws.length) : WordsIn (raw.extract (posn raw ws k) raw.size) (ws.drop k) := by
  have e1 : raw.data.toList.length = raw.size := Array.length_toList
  refine ⟨?_, fun w hw => h.ok w (List.mem_of_mem_drop hw)⟩
  unfold posn
  rw [if_pos hk, Lib.extract_data, h.eq, unw_sAt ws k hk]
  refine List.take_of_length_le ?_
  rw [← unw_sAt ws k hk, ← h.eq, List.length_drop, e1]
  exact Nat.le_refl _
theorem WordsIn.num (h : WordsIn raw ws) (k : Nat) (hk : k < ws.length) : numTo raw (posn raw ws k) (eAt ws k - posn raw ws k) = valOf (ws.getD k []) := by
  unfold posn
  rw [if_pos hk]
  have e : eAt ws k - sAt ws k = (ws.getD k []).length := by unfold eAt; omega
  rw [e]
  have hh : ∀ i, i ≤ (ws.getD k []).length → numTo raw (sAt ws k) i = valOf ((ws.getD k []).take i) := by
    intro i hi
    induction i with
    | zero => rfl
    | succ i ih =>
      have hlt : i < (ws.getD k []).length := by omega
      show numTo raw (sAt ws k) i * 10 + (bt raw (sAt ws k + i) - 48) = _
      rw [ih (by omega), h.bt_word k hk i hlt, List.take_succ_eq_append_getElem hlt, valOf_snoc, getD_lt hlt]
  rw [hh _ (Nat.le_refl _), List.take_length]
theorem WordsIn.len (_ : WordsIn raw ws) (k : Nat) (hk : k < ws.length) : eAt ws k - posn raw ws k = (ws.getD k []).length := by
  unfold posn eAt
  rw [if_pos hk]
  omega
/-- A word of digits. -/
theorem WordsIn.digits (h : WordsIn raw ws) (k : Nat) (hk : k < ws.length) (L : Nat) (hd : ∀ c ∈ ws.getD k [], 48 ≤ c.toNat ∧ c.toNat ≤ 57) (hl : (ws.getD k []).length ≤ L) : Digits raw (posn raw ws k) (eAt ws k) L := by
  refine ⟨h.tok k hk, fun j hj h1 h2 => ?_, by rw [h.len k hk]; exact hl⟩
  unfold posn at h1
  rw [if_pos hk] at h1
  obtain ⟨c, hc, hb⟩ := h.all k hk hd j h1 h2
  rw [bt_at raw j hj, hb]
  exact hc

/-! What the readers make of a word. -/
theorem WordsIn.str (h : WordsIn raw ws) (hs : raw.size ≤ 4611686018427387904) (k : Nat) (hk : k < ws.length) (w : World) :
    Calls Tryz.prog 66 #[.string raw, .int .i64 (posn raw ws k : Int)] w fun e w' => e = .returned (.tuple #[.string ⟨(ws.getD k []).toArray⟩, .int .i64 (posn raw ws (k + 1) : Int)]) ∧ Below w.heap.size w w' := by
  have := readStr raw (posn raw ws k) (eAt ws k) (h.tok k hk) hs w
  rw [h.next k hk, h.word k hk] at this
  exact this
theorem WordsIn.strEnd (_ : WordsIn raw ws) (hs : raw.size ≤ 4611686018427387904) (w : World) :
    Calls Tryz.prog 66 #[.string raw, .int .i64 (raw.size : Int)] w fun e w' => e = .returned (.tuple #[.string ⟨#[]⟩, .int .i64 (raw.size : Int)]) ∧ Below w.heap.size w w' := by
  have := readStr raw raw.size raw.size (tok_end raw) hs w
  have e : raw.extract raw.size raw.size = ⟨#[]⟩ := by apply ByteArray.ext; simp
  rw [e, show nextPos raw raw.size = raw.size by unfold nextPos; rw [if_neg (by omega)]] at this
  exact this
theorem WordsIn.char (h : WordsIn raw ws) (hs : raw.size ≤ 4611686018427387904) (k : Nat) (hk : k < ws.length) (hc : ∀ c ∈ ws.getD k [], isCh c.toNat) (hl : (ws.getD k []).length ≤ 32) (w : World) :
    Calls Tryz.prog 64 #[.string raw, .int .i64 (posn raw ws k : Int), .int .i64 32] w fun e w' => e = .returned (.tuple #[.string ⟨(ws.getD k []).toArray⟩, .int .i64 (posn raw ws (k + 1) : Int), .nilIface]) ∧ Below w.heap.size w w' := by
  have := readChar raw (posn raw ws k) (eAt ws k) (h.tok k hk) (fun j hj h1 h2 => by
    unfold posn at h1
    rw [if_pos hk] at h1
    obtain ⟨c, hc, hb⟩ := h.all k hk hc j h1 h2
    rw [bt_at raw j hj, hb]
    exact hc) (by rw [h.len k hk]; exact hl) hs w
  rw [h.next k hk, h.word k hk] at this
  exact this
theorem WordsIn.comp (h : WordsIn raw ws) (hs : raw.size ≤ 4611686018427387904) (k : Nat) (hk : k < ws.length) (v : Nat) (hw : ws.getD k [] = Lib.decDigits v) (hv : v ≤ 65535) (w : World) :
    Calls Tryz.prog 65 #[.string raw, .int .i64 (posn raw ws k : Int)] w fun e w' => e = .returned (.tuple #[.int .u16 (v : Int), .int .i64 (posn raw ws (k + 1) : Int), .nilIface]) ∧ Below w.heap.size w w' := by
  have := readComp raw (posn raw ws k) (eAt ws k) (h.digits k hk 5 (by rw [hw]; exact dec_digit v) (by rw [hw]; exact dec_len 4 v (by omega))) v (by rw [h.num k hk, hw, dec_val]) hv hs w
  rw [h.next k hk] at this
  exact this
theorem WordsIn.prio (h : WordsIn raw ws) (hs : raw.size ≤ 4611686018427387904) (k : Nat) (hk : k < ws.length) (v : Nat) (hw : ws.getD k [] = Lib.decDigits v) (hv : v ≤ 4294967295) (w : World) :
    Calls Tryz.prog 67 #[.string raw, .int .i64 (posn raw ws k : Int)] w fun e w' => e = .returned (.tuple #[.int .u32 (v : Int), .int .i64 (posn raw ws (k + 1) : Int), .nilIface]) ∧ Below w.heap.size w w' := by
  have := readPrio raw (posn raw ws k) (eAt ws k) (h.digits k hk 10 (by rw [hw]; exact dec_digit v) (by rw [hw]; exact dec_len 9 v (by omega))) v (by rw [h.num k hk, hw, dec_val]) hv hs w
  rw [h.next k hk] at this
  exact this
theorem WordsIn.port (h : WordsIn raw ws) (hs : raw.size ≤ 4611686018427387904) (k : Nat) (hk : k < ws.length) (v : Nat) (hw : ws.getD k [] = Lib.decDigits v) (hv : v ≤ 65535) (w : World) :
    Calls Tryz.prog 69 #[.string raw, .int .i64 (posn raw ws k : Int)] w fun e w' => e = .returned (.tuple #[.int .i64 (v : Int), .int .i64 (posn raw ws (k + 1) : Int), .nilIface]) ∧ Below w.heap.size w w' := by
  have := readPort raw (posn raw ws k) (eAt ws k) (h.digits k hk 5 (by rw [hw]; exact dec_digit v) (by rw [hw]; exact dec_len 4 v (by omega))) v (by rw [h.num k hk, hw, dec_val]) hv hs w
  rw [h.next k hk] at this
  exact this
theorem WordsIn.noZone (h : WordsIn raw ws) (hs : raw.size ≤ 4611686018427387904) (k : Nat) (hk : k < ws.length) (hc : ∀ c ∈ ws.getD k [], c.toNat ≠ 37) (w : World) :
    Calls Tryz.prog 68 #[.string ⟨(ws.getD k []).toArray⟩] w fun e w' => e = .returned (.string ⟨(ws.getD k []).toArray⟩) ∧ w = w' := by
  have h1 := h.size_le k hk
  have hsz : (⟨(ws.getD k []).toArray⟩ : ByteArray).size = (ws.getD k []).length := by rw [Go.ByteArray.size_mk', List.size_toArray]
  refine Go.Proofs.YtmfdbcfpcifmcaaGreatDoor.noCut _ (by unfold maxLen; unfold eAt at h1; omega) (fun i hi => ?_) w
  exact hc _ (by
    have e : (⟨(ws.getD k []).toArray⟩ : ByteArray)[i] = (ws.getD k [])[i]'(by omega) := rfl
    rw [e]
    exact List.getElem_mem _)
end Go.Proofs.YtmfdbcfpcifmcaaGreatDoor

namespace Go.Proofs.YtmfdbcfpcifmcaaGreatDoor
open Go.RowKit Go.Proofs.YtmfdbcfpcifmcaaGreatDoor.PFnFormat

theorem unw_cons (w : List UInt8) (vs : List (List UInt8)) : unw (w :: vs) = w ++ vs.flatMap (fun v => 32 :: v) := by
  induction vs generalizing w with
  | nil => simp [unw]
  | cons v vs ih =>
    show w ++ 32 :: unw (v :: vs) = _
    rw [ih v]
    simp

def relWords (r : S60) : List (List UInt8) := [[114, 97, 100, 100, 114], r.f0.data.toList, [114, 112, 111, 114, 116], Lib.decDigits r.f1.toNat]
def tcpWords (tt : Int) : List (List UInt8) := if tt = 0 then [] else [[116, 99, 112, 116, 121, 112, 101], (tcpStr tt).data.toList]
def extWords (x : S63) : List (List UInt8) := [x.f0.data.toList, x.f1.data.toList]
def headWords (k : Nat) (tcpB : Bool) (found : ByteArray) (comp prio : Nat) (addr : ByteArray) (port : Nat) : List (List UInt8) :=
  [found.data.toList, Lib.decDigits comp, (trStr tcpB).data.toList, Lib.decDigits prio, addr.data.toList, Lib.decDigits port, [116, 121, 112], (kindStr k).data.toList]
def allWords (k : Nat) (tcpB : Bool) (tt : Int) (found : ByteArray) (comp prio : Nat) (addr : ByteArray) (port : Nat) (rels : List S60) (exts : List S63) : List (List UInt8) :=
  headWords k tcpB found comp prio addr port ++ (rels.flatMap relWords ++ (tcpWords tt ++ exts.flatMap extWords))

theorem fold_words {α : Type} (f : ByteArray → α → ByteArray) (g : α → List (List UInt8)) (hf : ∀ t x, (f t x).data.toList = t.data.toList ++ (g x).flatMap (fun v => 32 :: v)) (l : List α) : ∀ t, (l.foldl f t).data.toList = t.data.toList ++ (l.flatMap g).flatMap (fun v => 32 :: v) := by
  induction l with
  | nil => intro t; simp
  | cons a l ih =>
    intro t
    rw [List.foldl_cons, ih, hf, List.flatMap_cons, List.flatMap_append, List.append_assoc]

theorem text_words (k : Nat) (tcpB : Bool) (tt : Int) (found : ByteArray) (comp prio : Nat) (addr : ByteArray) (port : Nat) (rels : List S60) (exts : List S63) :
    (textOf k tcpB tt found comp prio addr port rels exts).data.toList = unw (allWords k tcpB tt found comp prio addr port rels exts) := by
  have h0 : (headOf k tcpB found comp prio addr port).data.toList = unw (headWords k tcpB found comp prio addr port) := by
    unfold headOf headWords decStr
    simp [unw]
  unfold textOf allWords
  rw [fold_words extAdd extWords (fun t x => by unfold extAdd extWords; simp)]
  have h2 : ∀ t : ByteArray, (tcpAdd t tt).data.toList = t.data.toList ++ (tcpWords tt).flatMap (fun v => 32 :: v) := by
    intro t
    unfold tcpAdd tcpWords
    split <;> simp
  rw [h2, fold_words relAdd relWords (fun t x => by unfold relAdd relWords decStr; simp), h0]
  unfold headWords
  rw [unw_cons, List.cons_append, unw_cons]
  simp

theorem word_ok {s : ByteArray} {m : Int} (h : Word s m) : 0 < s.data.toList.length ∧ ∀ c ∈ s.data.toList, 33 ≤ c.toNat ∧ c.toNat < 128 := by
  have e1 : s.data.toList.length = s.size := Array.length_toList
  refine ⟨by have := h.1; omega, fun c hc => ?_⟩
  have := word_mem h c hc
  unfold isCh at this
  omega
theorem dec_ok (u : Nat) : 0 < (Lib.decDigits u).length ∧ ∀ c ∈ Lib.decDigits u, 33 ≤ c.toNat ∧ c.toNat < 128 :=
  ⟨dec_pos u, fun c hc => by have := dec_digit u c hc; omega⟩
theorem addr_ok {six : Bool} {s : ByteArray} (h : addrText six s) : 0 < s.data.toList.length ∧ ∀ c ∈ s.data.toList, 33 ≤ c.toNat ∧ c.toNat < 128 := by
  refine ⟨addr_len h, ?_⟩
  cases six with
  | false =>
    intro c hc
    obtain ⟨i, hi, rfl⟩ := List.mem_iff_getElem.1 hc
    have := Ip.letters (show Ip.Ok s.data.toList from h) i hi
    omega
  | true => rcases h with rfl | rfl | rfl | rfl | rfl <;> decide
theorem kind_ok (k : Nat) : 0 < (kindStr k).data.toList.length ∧ ∀ c ∈ (kindStr k).data.toList, 33 ≤ c.toNat ∧ c.toNat < 128 := by
  unfold kindStr
  split
  · decide
  split
  · decide
  split <;> decide
theorem tcp_ok (t : Int) : 0 < (tcpStr t).data.toList.length ∧ ∀ c ∈ (tcpStr t).data.toList, 33 ≤ c.toNat ∧ c.toNat < 128 := by
  unfold tcpStr
  split
  · decide
  split <;> decide

theorem textWords (k : Nat) (tcpB six : Bool) (tt : Int) (found : ByteArray) (hw : Word found 32) (comp prio : Nat) (addr : ByteArray) (ha : addrText six addr) (port : Nat) (rels : List S60) (exts : List S63)
    (hr : ∀ x ∈ rels, addrText six x.f0) (hx : ∀ x ∈ exts, Word x.f0 20 ∧ Word x.f1 20) :
    WordsIn (textOf k tcpB tt found comp prio addr port rels exts) (allWords k tcpB tt found comp prio addr port rels exts) := by
  refine ⟨text_words k tcpB tt found comp prio addr port rels exts, fun w hm => ?_⟩
  unfold allWords at hm
  rcases List.mem_append.1 hm with hm | hm
  · unfold headWords at hm
    simp only [List.mem_cons, List.not_mem_nil, or_false] at hm
    rcases hm with rfl | rfl | rfl | rfl | rfl | rfl | rfl | rfl
    · exact word_ok hw
    · exact dec_ok comp
    · cases tcpB <;> decide
    · exact dec_ok prio
    · exact addr_ok ha
    · exact dec_ok port
    · decide
    · exact kind_ok k
  rcases List.mem_append.1 hm with hm | hm
  · obtain ⟨x, hx1, hm⟩ := List.mem_flatMap.1 hm
    unfold relWords at hm
    simp only [List.mem_cons, List.not_mem_nil, or_false] at hm
    rcases hm with rfl | rfl | rfl | rfl
    · decide
    · exact addr_ok (hr x hx1)
    · decide
    · exact dec_ok _
  rcases List.mem_append.1 hm with hm | hm
  · unfold tcpWords at hm
    split at hm
    · simp at hm
    · simp only [List.mem_cons, List.not_mem_nil, or_false] at hm
      rcases hm with rfl | rfl
      · decide
      · exact tcp_ok tt
  · obtain ⟨x, hx1, hm⟩ := List.mem_flatMap.1 hm
    obtain ⟨h0, h1⟩ := hx x hx1
    unfold extWords at hm
    simp only [List.mem_cons, List.not_mem_nil, or_false] at hm
    rcases hm with rfl | rfl
    · exact word_ok h0
    · exact word_ok h1
end Go.Proofs.YtmfdbcfpcifmcaaGreatDoor

namespace Go.Proofs.YtmfdbcfpcifmcaaGreatDoor
open Go.RowKit

set_option maxRecDepth 100000 in
set_option maxHeartbeats 1000000 in
theorem readByte (raw : ByteArray) (s e : Nat) (hT : Tok raw s e) (hw : ∀ k (h : k < raw.size), s ≤ k → k < e → 33 ≤ (raw[k]'h).toNat) (hs : raw.size ≤ 4611686018427387904) (w : World) :
    Calls Tryz.prog 86 #[.string raw, .int .i64 (s : Int)] w fun en w' => en = .returned (.tuple #[.string (raw.extract s e), .int .i64 ((nextPos raw e : Nat) : Int), .nilIface]) ∧ Below w.heap.size w w' := by
  have hle := hT.le
  have hse := hT.size
  obtain ⟨np, hnp⟩ := npos_at raw e
  rw [← hnp.eq]
  obtain ⟨sub, hS⟩ := sub_at raw s
  have hsl := hS.cut (by omega)
  have hst := sliceTo raw s e (by omega) (by omega)
  have hz := hS.size
  go_enter Tryz.func86, Tryz.ntmps86
  go_wp2_with fail
  go_loopw [13] (fun _ wr => ∃ i : Nat, wr = w.iter sub i ∧ s + i ≤ e) (fun _ wr => sub.size + 1 - wr.iterPos w.heap.size)
  case atStart => exact ⟨0, rfl, by omega⟩
  case round =>
    obtain ⟨i, rfl, hi⟩ := hrel
    by_cases hlt : s + i < e
    · have hp : i < sub.size := by omega
      have hl := hT.low (s + i) (by omega) (by omega) hlt
      have hwc := hw (s + i) (by omega) (by omega) hlt
      rw [← hS.byte i hp (by omega)] at hl hwc
      have hnx : ∀ ty, (Instr.next (.pointer (some ⟨w.heap.size, 0, none⟩)) true ty).run Tryz.prog (w.iter sub i) = _ := fun ty => run_next_ascii w sub i ty hp hl.1
      generalize (sub[i]'hp).toNat = c at *
      have hne : ((c : Int) == 32) = false := by simp; omega
      have j1 : decide ((c : Int) < 1) = false := decide_eq_false (by omega)
      have j2 : decide ((9 : Int) < c) = true := decide_eq_true (by omega)
      have j3 : decide ((c : Int) < 11) = false := decide_eq_false (by omega)
      have j4 : decide ((12 : Int) < c) = true := decide_eq_true (by omega)
      have j5 : decide ((c : Int) < 14) = false := decide_eq_false (by omega)
      have j6 : decide ((255 : Int) < c) = false := decide_eq_false (by omega)
      clear hl hwc
      go_wp2_with fail
      go_roundw
      case rel => exact ⟨i + 1, by first | rfl | trivial, by omega⟩
      case measure => simp; omega
    · obtain rfl : e = s + i := by omega
      by_cases hend : s + i < raw.size
      · have hp : i < sub.size := by omega
        have h32 := hT.stop hend
        have hc : (sub[i]'hp).toNat = 32 := by rw [hS.byte i hp (by omega)]; exact h32
        have hnx : ∀ ty, (Instr.next (.pointer (some ⟨w.heap.size, 0, none⟩)) true ty).run Tryz.prog (w.iter sub i) = _ := fun ty => run_next_ascii w sub i ty hp (by omega)
        rw [hc] at hnx
        have HV := Lib.hid (hnp.mid hend)
        go_wp2_with fail
        refine bodyPost_ret (v := .tuple #[.string (raw.extract s (s + i)), .int .i64 ((s : Int) + i + 1), .nilIface]) ?h1 rfl ⟨by rw [HV.out]; rfl, below_iter _ _ _⟩
        case h1 => simp [results, Tryz.results86, go_sem]
      · have hp : ¬ i < sub.size := by omega
        have hnx : ∀ ty, (Instr.next (.pointer (some ⟨w.heap.size, 0, none⟩)) true ty).run Tryz.prog (w.iter sub i) = _ := fun ty => run_next_end w sub i ty hp
        have HV := Lib.hid (hnp.last hend)
        have HX : Hid (raw.extract s (s + i) = sub) := Lib.hid (by rw [show s + i = raw.size by omega]; exact hS.eq)
        go_wp2_with fail
        refine bodyPost_ret (v := .tuple #[.string sub, .int .i64 (raw.size : Int), .nilIface]) ?h2 rfl ⟨by rw [HV.out, HX.out], below_iter _ _ _⟩
        case h2 => simp [results, Tryz.results86, go_sem]

variable {raw : ByteArray} {ws : List (List UInt8)}
theorem WordsIn.byteStr (h : WordsIn raw ws) (hs : raw.size ≤ 4611686018427387904) (k : Nat) (hk : k < ws.length) (w : World) :
    Calls Tryz.prog 86 #[.string raw, .int .i64 (posn raw ws k : Int)] w fun e w' => e = .returned (.tuple #[.string ⟨(ws.getD k []).toArray⟩, .int .i64 (posn raw ws (k + 1) : Int), .nilIface]) ∧ Below w.heap.size w w' := by
  have := readByte raw (posn raw ws k) (eAt ws k) (h.tok k hk) (fun j hj h1 h2 => by
    unfold posn at h1
    rw [if_pos hk] at h1
    obtain ⟨c, hc, hb⟩ := h.all k hk (h.getD_ok k hk).2 j h1 h2
    rw [bt_at raw j hj, hb]
    omega) hs w
  rw [h.next k hk, h.word k hk] at this
  exact this

theorem strNe {s : ByteArray} {l : List UInt8} (h : s.data.toList ≠ l) : (s.toList == l) = false ∧ (s.toList != l) = true := by
  rw [ByteArray.toList_eq]
  exact ⟨by simpa using h, by simpa using h⟩

set_option maxRecDepth 100000 in
set_option maxHeartbeats 400000 in
theorem relNo (raw key : ByteArray) (p q : Nat) (R : ∀ W, Calls Tryz.prog 66 #[.string raw, .int .i64 (p : Int)] W fun e w' => e = .returned (.tuple #[.string key, .int .i64 (q : Int)]) ∧ Below W.heap.size W w')
    (hne : key.data.toList ≠ [114, 97, 100, 100, 114]) (w : World) :
    Calls Tryz.prog 70 #[.string raw, .int .i64 (p : Int)] w fun e w' => e = .returned (.tuple #[.string ⟨#[]⟩, .int .i64 0, .int .i64 (p : Int), .nilIface]) ∧ Below w.heap.size w w' := by
  obtain ⟨n1, n2⟩ := strNe hne
  clear hne
  go_enter Tryz.func70, Tryz.ntmps70
  go_wp2_with fail
  refine (R _).mono ?_
  rintro e w1 ⟨rfl, hb⟩
  go_wp2_with fail
  refine bodyPost_ret (v := .tuple #[.string ⟨#[]⟩, .int .i64 0, .int .i64 (p : Int), .nilIface]) ?h1 rfl ⟨rfl, hb⟩
  case h1 => simp [results, Tryz.results70, go_sem]

set_option maxRecDepth 100000 in
set_option maxHeartbeats 400000 in
theorem relYes (raw ra : ByteArray) (p q0 q1 q2 q3 rp : Nat) (R0 : ∀ W, Calls Tryz.prog 66 #[.string raw, .int .i64 (p : Int)] W fun e w' => e = .returned (.tuple #[.string ⟨#[114, 97, 100, 100, 114]⟩, .int .i64 (q0 : Int)]) ∧ Below W.heap.size W w')
    (R1 : ∀ W, Calls Tryz.prog 66 #[.string raw, .int .i64 (q0 : Int)] W fun e w' => e = .returned (.tuple #[.string ra, .int .i64 (q1 : Int)]) ∧ Below W.heap.size W w')
    (R2 : ∀ W, Calls Tryz.prog 66 #[.string raw, .int .i64 (q1 : Int)] W fun e w' => e = .returned (.tuple #[.string ⟨#[114, 112, 111, 114, 116]⟩, .int .i64 (q2 : Int)]) ∧ Below W.heap.size W w')
    (R3 : ∀ W, Calls Tryz.prog 69 #[.string raw, .int .i64 (q2 : Int)] W fun e w' => e = .returned (.tuple #[.int .i64 (rp : Int), .int .i64 (q3 : Int), .nilIface]) ∧ Below W.heap.size W w')
    (l0 : q0 < raw.size) (l1 : q1 < raw.size) (l2 : q2 < raw.size) (w : World) :
    Calls Tryz.prog 70 #[.string raw, .int .i64 (p : Int)] w fun e w' => e = .returned (.tuple #[.string ra, .int .i64 (rp : Int), .int .i64 (q3 : Int), .nilIface]) ∧ Below w.heap.size w w' := by
  have j0 : decide ((raw.size : Int) ≤ q0) = false := decide_eq_false (by omega)
  have j1 : decide ((raw.size : Int) ≤ q1) = false := decide_eq_false (by omega)
  have j2 : decide ((raw.size : Int) ≤ q2) = false := decide_eq_false (by omega)
  go_enter Tryz.func70, Tryz.ntmps70
  go_wp2_with fail
  refine (R0 _).mono ?_
  rintro e v0 ⟨rfl, hb0⟩
  go_wp2_with fail
  refine (R1 _).mono ?_
  rintro e v1 ⟨rfl, hx⟩
  have hb1 := hb0.trans (hx.mono hb0.size)
  clear hx
  go_wp2_with fail
  refine (R2 _).mono ?_
  rintro e v2 ⟨rfl, hx⟩
  have hb2 := hb1.trans (hx.mono hb1.size)
  clear hx
  go_wp2_with fail
  refine (R3 _).mono ?_
  rintro e v3 ⟨rfl, hx⟩
  have hb3 := hb2.trans (hx.mono hb2.size)
  clear hx
  go_wp2_with fail
  refine bodyPost_ret (v := .tuple #[.string ra, .int .i64 (rp : Int), .int .i64 (q3 : Int), .nilIface]) ?h1 rfl ⟨rfl, hb3⟩
  case h1 => simp [results, Tryz.results70, go_sem]

theorem WordsIn.relNo (h : WordsIn raw ws) (hs : raw.size ≤ 4611686018427387904) (k : Nat) (hne : ws.getD k [] ≠ [114, 97, 100, 100, 114]) (w : World) :
    Calls Tryz.prog 70 #[.string raw, .int .i64 (posn raw ws k : Int)] w fun e w' => e = .returned (.tuple #[.string ⟨#[]⟩, .int .i64 0, .int .i64 (posn raw ws k : Int), .nilIface]) ∧ Below w.heap.size w w' := by
  by_cases hk : k < ws.length
  · exact Go.Proofs.YtmfdbcfpcifmcaaGreatDoor.relNo raw _ _ _ (h.str hs k hk) (by simpa using hne) w
  · rw [posn_end raw ws k (by omega)]
    exact Go.Proofs.YtmfdbcfpcifmcaaGreatDoor.relNo raw _ _ _ (h.strEnd hs) (by simp) w
theorem WordsIn.relYes (h : WordsIn raw ws) (hs : raw.size ≤ 4611686018427387904) (k : Nat) (hk : k + 3 < ws.length) (rp : Nat) (h0 : ws.getD k [] = [114, 97, 100, 100, 114]) (h2 : ws.getD (k + 2) [] = [114, 112, 111, 114, 116]) (h3 : ws.getD (k + 3) [] = Lib.decDigits rp) (hrp : rp ≤ 65535) (w : World) :
    Calls Tryz.prog 70 #[.string raw, .int .i64 (posn raw ws k : Int)] w fun e w' => e = .returned (.tuple #[.string ⟨(ws.getD (k + 1) []).toArray⟩, .int .i64 (rp : Int), .int .i64 (posn raw ws (k + 4) : Int), .nilIface]) ∧ Below w.heap.size w w' :=
  Go.Proofs.YtmfdbcfpcifmcaaGreatDoor.relYes raw _ _ _ _ _ _ rp (by have := h.str hs k (by omega); rw [h0] at this; exact this) (h.str hs (k + 1) (by omega)) (by have := h.str hs (k + 2) (by omega); rw [h2] at this; exact this)
    (h.port hs (k + 3) hk rp h3 hrp) (h.posn_lt _ (by omega)) (h.posn_lt _ (by omega)) (h.posn_lt _ (by omega)) w
end Go.Proofs.YtmfdbcfpcifmcaaGreatDoor

namespace Go.Proofs.YtmfdbcfpcifmcaaGreatDoor
open Go.RowKit Go.Proofs.YtmfdbcfpcifmcaaGreatDoorW.PrintWords Go.Proofs.YtmfdbcfpcifmcaaGreatDoor.PFnFormat

def kvWords (x : S62) : List (List UInt8) := [x.f0.data.toList, x.f1.data.toList]
def isTcp (x : S62) : Bool := x.f0.data.toList == [116, 99, 112, 116, 121, 112, 101]
def outOf (ps : List S62) : List S62 := ps.filter (fun x => !isTcp x)
def tcpOf (ps : List S62) : ByteArray := ps.foldl (fun t x => if isTcp x then x.f1 else t) ⟨#[]⟩

theorem kv_len (ps : List S62) : (ps.flatMap kvWords).length = 2 * ps.length := by
  induction ps with
  | nil => rfl
  | cons p ps ih =>
    rw [List.flatMap_cons, List.length_append, ih, List.length_cons]
    show 2 + _ = _
    omega
theorem kv_at (ps : List S62) (j : Nat) (h : j < ps.length) : (ps.flatMap kvWords).getD (2 * j) [] = ps[j].f0.data.toList ∧ (ps.flatMap kvWords).getD (2 * j + 1) [] = ps[j].f1.data.toList := by
  induction ps generalizing j with
  | nil => simp at h
  | cons p ps ih =>
    cases j with
    | zero => exact ⟨rfl, rfl⟩
    | succ j => exact ih j (by simpa using h)
theorem back (s : ByteArray) : (⟨s.data.toList.toArray⟩ : ByteArray) = s := by apply ByteArray.ext; simp

theorem out_snoc (ps : List S62) (j : Nat) (h : j < ps.length) : outOf (ps.take (j + 1)) = if isTcp ps[j] then outOf (ps.take j) else outOf (ps.take j) ++ [ps[j]] := by
  rw [List.take_succ_eq_append_getElem h]
  unfold outOf
  rw [List.filter_append]
  by_cases hb : isTcp ps[j] = true <;> simp [hb]
theorem tcp_snoc (ps : List S62) (j : Nat) (h : j < ps.length) : tcpOf (ps.take (j + 1)) = if isTcp ps[j] then ps[j].f1 else tcpOf (ps.take j) := by
  rw [List.take_succ_eq_append_getElem h]
  unfold tcpOf
  rw [List.foldl_append]
  rfl
structure OutIs2 (ps : List S62) (j : Nat) (o : List S62) : Prop where
  eq : o = outOf (ps.take j)
structure TcpIs (ps : List S62) (j : Nat) (t : ByteArray) : Prop where
  eq : t = tcpOf (ps.take j)
theorem out_len (ps : List S62) (j : Nat) : (outOf (ps.take j)).length ≤ ps.length := by
  unfold outOf
  exact Nat.le_trans (List.length_filter_le _ _) (by simp; omega)
theorem WordsIn.posn_step {raw : ByteArray} {ws : List (List UInt8)} (h : WordsIn raw ws) (k : Nat) (hk : k < ws.length) : posn raw ws k < posn raw ws (k + 1) := by
  by_cases e : k + 1 < ws.length
  · unfold posn
    rw [if_pos hk, if_pos e]
    show _ < sAt ws k + _ + 1
    omega
  · rw [posn_end raw ws (k + 1) (by omega)]
    exact h.posn_lt k hk
/-- Where pair j begins. -/
structure PosIs (raw : ByteArray) (ws : List (List UInt8)) (j p : Nat) : Prop where
  eq : p = posn raw ws (2 * j)

set_option maxRecDepth 100000 in
set_option maxHeartbeats 2000000 in
theorem readExts (raw : ByteArray) (ps : List S62) (h : WordsIn raw (ps.flatMap kvWords)) (hs : raw.size ≤ 4611686018427387904) (hp0 : 0 < ps.length) (hp6 : ps.length ≤ 6) (w : World) :
    Calls Tryz.prog 71 #[.string raw] w fun e w' => ∃ v, e = .returned (.tuple #[v, .string (tcpOf ps), .nilIface]) ∧ Kd.R k62 115 w' w.heap.size (fun _ => True) v (outOf ps) ∧ Below w.heap.size w w' := by
  have hlen := kv_len ps
  have h0 := h.start_lt 0 (by omega)
  have hsz : 0 < raw.size := by omega
  have hne := notEmpty hsz
  have hx0 : bt raw 0 ≠ 32 := by
    obtain ⟨c, hc, hb⟩ := h.all 0 (by omega) (h.getD_ok 0 (by omega)).2 0 (Nat.le_refl _) (by have := (h.getD_ok 0 (by omega)).1; unfold eAt; omega)
    omega
  rw [← bt_at raw 0 hsz] at hx0
  have hix : ∀ W, (Instr.index 9 (.string raw) (.int .i64 0)).run Tryz.prog W = .ok (.int .u8 ((raw[0]'hsz).toNat : Int)) W := fun W => by
    rw [run_index_string W 9 raw .i64 _ Tryz.underlying9, dif_pos ⟨by omega, by omega⟩]
    rfl
  have hxn : (((raw[0]'hsz).toNat : Int) == 32) = false := by simp; omega
  generalize (raw[0]'hsz).toNat = x0 at *
  have hmk : ∀ W, (Instr.makeSlice 125 (.int .i64 0) (.int .i64 0)).run Tryz.prog W = .ok (.slice (some ⟨W.heap.size, 0, none⟩) 0 0) (W.alloc (.cells #[] 115)) := fun W => by rw [← made0]; exact mkExts 0 (by omega) W
  have hR0 : Kd.R k62 115 (w.alloc (.cells #[] 115)) w.heap.size (fun _ => True) (.slice (some ⟨w.heap.size, 0, none⟩) 0 0) [] :=
    ⟨fun _ _ => trivial, [], ⟨rfl, .inr ⟨w.heap.size, 0, #[], rfl, Nat.le_refl _, heap_alloc_new w (.cells #[] 115), Nat.le_refl _, Nat.zero_le _, rfl, rfl⟩⟩, Reps.none _ _⟩
  have hB0 := below_al (Below.refl w.heap.size w) (Nat.le_refl _) (.cells #[] 115)
  have HR0 := Lib.hid hR0
  have HB0 := Lib.hid hB0
  clear hx0 hR0 hB0 h0 hsz
  go_enter Tryz.func71, Tryz.ntmps71
  go_wp2_with fail
  clear hix hxn hmk hne
  go_loopw [2, 3, 5] (fun v2 v3 v5 wr => ∃ (j q : Nat) (o : List S62) (t : ByteArray), j ≤ ps.length ∧ PosIs raw (ps.flatMap kvWords) j q ∧ OutIs2 ps j o ∧ TcpIs ps j t ∧ v3 = .string t ∧ v5 = .int .i64 (q : Int) ∧ Kd.R k62 115 wr w.heap.size (fun _ => True) v2 o ∧ Below w.heap.size w wr) (fun _ _ v5 _ => raw.size - (intOf v5).toNat)
  case atStart => exact ⟨0, 0, [], ⟨#[]⟩, Nat.zero_le _, ⟨by unfold posn; rw [if_pos (by omega)]; rfl⟩, ⟨rfl⟩, ⟨rfl⟩, rfl, rfl, HR0.out, HB0.out⟩
  case round =>
    obtain ⟨j, q, o, t, hj, hq, ho, ht, rfl, rfl, hR, hB⟩ := hrel
    obtain ⟨A2, c2, rfl⟩ := Kd.R_slice hR
    have HR := Lib.hid hR
    have HB := Lib.hid hB
    clear hR hB HR0 HB0
    by_cases hlt : j < ps.length
    · obtain ⟨k0, k1⟩ := kv_at ps j hlt
      have R0 := h.byteStr hs (2 * j) (by omega)
      have R1 := h.byteStr hs (2 * j + 1) (by omega)
      rw [k0, back, ← hq.eq] at R0
      rw [k1, back] at R1
      have l0 := h.posn_lt (2 * j) (by omega)
      have l1 := h.posn_lt (2 * j + 1) (by omega)
      have m0 := h.posn_step (2 * j) (by omega)
      have m1 := h.posn_step (2 * j + 1) (by omega)
      rw [← hq.eq] at l0 m0
      obtain ⟨q2, hq2⟩ : ∃ q2, PosIs raw (ps.flatMap kvWords) (j + 1) q2 := ⟨_, ⟨rfl⟩⟩
      rw [show 2 * j + 1 + 1 = 2 * (j + 1) by omega, ← hq2.eq] at R1 m1
      generalize posn raw (ps.flatMap kvWords) (2 * j + 1) = q1 at *
      have jl0 : decide ((q : Int) < raw.size) = true := decide_eq_true (by omega)
      have jl1 : decide ((q1 : Int) < raw.size) = true := decide_eq_true (by omega)
      have hos := out_snoc ps j hlt
      have hts := tcp_snoc ps j hlt
      rw [← ho.eq] at hos
      rw [← ht.eq] at hts
      generalize ps[j] = p at *
      obtain ⟨pk, pv⟩ := p
      have hol : o.length ≤ 6 := by have := out_len ps j; rw [← ho.eq] at this; omega
      clear k0 k1
      go_wp2_with fail
      refine (R0 _).mono ?_
      rintro e w1 ⟨rfl, hb⟩
      have HR1 := Lib.hid (Kd.R_below HR.out hb)
      have HB1 := Lib.hid (HB.out.trans (hb.mono HB.out.size))
      clear hb HR HB
      go_wp2_with fail
      refine (R1 _).mono ?_
      rintro e w2 ⟨rfl, hb⟩
      have HR2 := Lib.hid (Kd.R_below HR1.out hb)
      have HB2 := Lib.hid (HB1.out.trans (hb.mono HB1.out.size))
      clear hb HR1 HB1
      by_cases ht : isTcp ⟨pk, pv⟩ = true
      · rw [if_pos ht] at hos hts
        have hk : pk = ⟨#[116, 99, 112, 116, 121, 112, 101]⟩ := by
          apply ByteArray.ext
          apply Array.toList_inj.1
          unfold isTcp at ht
          exact beq_iff_eq.1 ht
        subst hk
        clear ht
        have hO : OutIs2 ps (j + 1) o := ⟨hos.symm⟩
        have hT : TcpIs ps (j + 1) pv := ⟨hts.symm⟩
        clear hos hts ho R0 R1
        go_wp2_with fail
        exact ⟨⟨j + 1, q2, o, pv, by omega, hq2, hO, hT, rfl, rfl, HR2.out, HB2.out⟩, by simp [intOf]; omega⟩
      · rw [if_neg ht] at hos hts
        have hk : pk.data.toList ≠ [116, 99, 112, 116, 121, 112, 101] := by
          unfold isTcp at ht
          simpa using ht
        obtain ⟨n1, n2⟩ := strNe hk
        clear ht hk
        have hO : OutIs2 ps (j + 1) (o ++ [⟨pk, pv⟩]) := ⟨hos.symm⟩
        have hT : TcpIs ps (j + 1) t := ⟨hts.symm⟩
        clear hos hts ho R0 R1
        have hsz2 := HB2.out.size
        go_wp2_with (first
          | (with_reducible refine gate_builtin (b := .append) (xs := #[.tmp 54, .tmp 58]) rfl ?_; at_builtin;
             refine Kd.R_append k62 (w0 := w) w.heap.size rfl (.tmp 54) (.tmp 58) 125 115 (.agg #[(.string ⟨#[]⟩), (.string ⟨#[]⟩)]) 32 rfl Tryz.underlying125 info115 rfl (by decide) (by omega) (.slice A2 o.length c2) o ⟨pk, pv⟩ [.string pk, .string pv] (fun _ => True) (fun _ => False) rfl (by first | (go_simp; done) | (go_simp; rfl)) (k62_mkM _ _ _ ⟨pk, pv⟩) (fun _ hk => hk.elim) (fun _ _ => trivial) HR2.out HB2.out hsz2 (by omega) ?_;
             intro v3 w3 hr3 hb3 _ _;
             have HR3 := Lib.hid hr3; have HB3 := Lib.hid hb3; clear hr3 hb3 HR2 HB2)
          | fail)
        exact ⟨⟨j + 1, q2, o ++ [⟨pk, pv⟩], t, by omega, hq2, hO, hT, rfl, rfl, HR3.out, HB3.out⟩, by simp [intOf]; omega⟩
    · obtain rfl : j = ps.length := by omega
      obtain rfl : q = raw.size := by rw [hq.eq]; exact posn_end _ _ _ (by omega)
      have ho2 : o = outOf ps := by rw [ho.eq, List.take_length]
      have ht2 : t = tcpOf ps := by rw [ht.eq, List.take_length]
      subst ho2 ht2
      clear ho ht hq
      go_wp2_with fail
      refine bodyPost_ret (v := .tuple #[.slice A2 (outOf ps).length c2, .string (tcpOf ps), .nilIface]) ?h1 rfl ⟨_, rfl, HR.out, HB.out⟩
      case h1 => simp [results, Tryz.results71, go_sem]
end Go.Proofs.YtmfdbcfpcifmcaaGreatDoor

namespace Go.Proofs.YtmfdbcfpcifmcaaGreatDoor
open Go.RowKit Go.Proofs.YtmfdbcfpcifmcaaGreatDoorW.PrintWords Go.Proofs.YtmfdbcfpcifmcaaGreatDoor.PFnFormat

/-- Where the related address lies: nowhere, or in a block of its own. -/
def RelIs (w : World) (rel : Option Addr) (rs : List S59) : Prop := (rs = [] ∧ rel = none) ∨ ∃ (gr : Nat) (x : S59), rs = [x] ∧ rel = some ⟨gr, 0, none⟩ ∧ Row w gr 124 #[.string x.f0, .int .i64 x.f1]
/-- A slice of extensions. -/
def RowX (w : World) (v : Value) (xs : List S62) : Prop := ∃ (A : Option Addr) (m : Nat), v = .slice A xs.length m ∧ xs.length ≤ m ∧ Kd.C k62 w A xs.length xs

theorem newHostC {tcp six : Bool} {network addr : ByteArray} (hn : netName tcp network) (ha : addrText six addr) (hs : addr.size ≤ maxLen) (port comp prio tt : Int) (found : ByteArray) (h0 : 0 ≤ port) (h1 : port ≤ 65535)
    (gc : Nat) (w : World) (p4 p6 : Addr) (hG : Glob w p4 p6)
    (hc : Row w gc 96 #[.string ⟨#[]⟩, .string network, .string addr, .int .i64 port, .int .u16 comp, .int .u32 prio, .string found, .int .i64 tt, .bool false]) :
    Calls Tryz.prog 56 #[.pointer (some ⟨gc, 0, none⟩)] w fun e w' => ∃ g : Nat, e = .returned (.tuple #[.pointer (some ⟨g, 0, none⟩), .nilIface]) ∧ Below w.heap.size w w' ∧ w.heap.size ≤ g ∧
      CandAt w' 1 g { typ := 1, net := netNum tcp six, comp := comp, port := port, tcp := tt, prio := prio, relay := 0, addr := addr, found := found, exts := .slice none 0 0 } none := by
  refine (newHost hn ha hs port comp prio tt found h0 h1 gc w p4 p6 hG hc).mono ?_
  rintro e w' ⟨rfl, hb, hi, lo, p, -, hr⟩
  exact ⟨_, rfl, hb, Nat.le_refl _, hi, lo, p, port, [.string network], hr⟩

set_option maxRecDepth 100000 in
set_option maxHeartbeats 400000 in
theorem setExts (g : Nat) (A : Option Addr) (n m : Nat) (w : World) {u : Value} (hc : w.cell? ⟨g, 16, none⟩ = some u) (hf : w.frozen? ⟨g, 16, none⟩ = false) :
    Calls Tryz.prog 73 #[.pointer (some ⟨g, 0, none⟩), .slice A n m] w fun e w' => e = .returned (.tuple #[]) ∧ w' = w.setCell ⟨g, 16, none⟩ (.slice A n m) := by
  go_enter Tryz.func73, Tryz.ntmps73
  go_wp2_with fail
  first | go_end0 | refine bodyPost_ret (results_none rfl _ _ _) rfl ?_
  exact ⟨rfl, rfl⟩

theorem CandAt.setX {w : World} {kind g : Nat} {c : Cand} {rel : Option Addr} (h : CandAt w kind g c rel) (v : Value) : CandAt (w.setCell ⟨g, 16, none⟩ v) kind g { c with exts := v } rel := by
  obtain ⟨hi, lo, p, port16, last, r⟩ := h
  exact ⟨hi, lo, p, port16, last, r.set 16 v⟩
theorem CandAt.slot {w : World} {kind g : Nat} {c : Cand} {rel : Option Addr} (h : CandAt w kind g c rel) : w.cell? ⟨g, 16, none⟩ = some c.exts ∧ w.frozen? ⟨g, 16, none⟩ = false := by
  obtain ⟨hi, lo, p, port16, last, r⟩ := h
  exact ⟨r.cell 16, r.free 16⟩
end Go.Proofs.YtmfdbcfpcifmcaaGreatDoor
