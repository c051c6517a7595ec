/- The reference's text of a candidate begins with seven words, each with a space behind it. | The seven words of the reference's text. (Merged by merge2.py out of SevenT, SevenX.) -/
import Derived.Test.YtmfdbcfpcifmcaaGreatDoorMi
import Derived.Test.YtmfdbcfpcifmcaaGreatDoorTextW
import Derived.Test.YtmfdbcfpcifmcaaGreatDoorMg
import Derived.Lib.Strings
namespace Go.Proofs.YtmfdbcfpcifmcaaGreatDoor
open Go.RowKit Go.Proofs.YtmfdbcfpcifmcaaGreatDoor.PFnFormat

def join : List (List UInt8) → List UInt8 → List UInt8
  | [], r => r
  | w :: ws, r => w ++ 32 :: join ws r
def sAt (ws : List (List UInt8)) : Nat → Nat
  | 0 => 0
  | k + 1 => sAt ws k + (ws.getD k []).length + 1
def eAt (ws : List (List UInt8)) (k : Nat) : Nat := sAt ws k + (ws.getD k []).length

theorem join_drop (ws : List (List UInt8)) (r : List UInt8) (k : Nat) (hk : k < ws.length) : join (ws.drop k) r = ws.getD k [] ++ 32 :: join (ws.drop (k + 1)) r := by
  rw [List.drop_eq_getElem_cons hk]
  have : ws.getD k [] = ws[k] := by rw [List.getD_eq_getElem?_getD, List.getElem?_eq_getElem hk]; rfl
  rw [this]
  rfl
theorem drop_sAt (ws : List (List UInt8)) (r : List UInt8) (k : Nat) (hk : k ≤ ws.length) : (join ws r).drop (sAt ws k) = join (ws.drop k) r := by
  induction k with
  | zero => rfl
  | succ k ih =>
    show (join ws r).drop (sAt ws k + (ws.getD k []).length + 1) = _
    rw [Nat.add_assoc, ← List.drop_drop, ih (by omega), join_drop ws r k (by omega)]
    rw [List.drop_append]
    simp

theorem getD_lt {l : List UInt8} {i : Nat} (h : i < l.length) : l.getD i 0 = l[i] := by
  rw [List.getD_eq_getElem?_getD, List.getElem?_eq_getElem h]
  rfl

/-- The letters of a text, by its list. -/
theorem bt_drop (t : ByteArray) (a i : Nat) : bt t (a + i) = ((t.data.toList.drop a).getD i 0).toNat := by
  unfold bt
  rw [List.getD_eq_getElem?_getD, List.getD_eq_getElem?_getD, List.getElem?_drop]

theorem bt_word {t : ByteArray} {ws : List (List UInt8)} {r : List UInt8} (ht : t.data.toList = join ws r) (k : Nat) (hk : k < ws.length) (i : Nat) (hi : i < (ws.getD k []).length) : bt t (sAt ws k + i) = ((ws.getD k []).getD i 0).toNat := by
  rw [bt_drop, ht, drop_sAt ws r k (by omega), join_drop ws r k hk, List.getD_eq_getElem?_getD, List.getElem?_append_left hi, ← List.getD_eq_getElem?_getD]
theorem bt_space {t : ByteArray} {ws : List (List UInt8)} {r : List UInt8} (ht : t.data.toList = join ws r) (k : Nat) (hk : k < ws.length) : bt t (eAt ws k) = 32 := by
  unfold eAt
  rw [bt_drop, ht, drop_sAt ws r k (by omega), join_drop ws r k hk, List.getD_eq_getElem?_getD, List.getElem?_append_right (Nat.le_refl _)]
  simp
theorem size_gt {t : ByteArray} {ws : List (List UInt8)} {r : List UInt8} (ht : t.data.toList = join ws r) (k : Nat) (hk : k < ws.length) : eAt ws k < t.size := by
  have e1 : t.data.toList.length = t.size := Array.length_toList
  have e2 := congrArg List.length (drop_sAt ws r k (by omega))
  rw [join_drop ws r k hk, List.length_drop, List.length_append, ← ht, e1, List.length_cons] at e2
  unfold eAt
  omega
theorem word_all {t : ByteArray} {ws : List (List UInt8)} {r : List UInt8} (ht : t.data.toList = join ws r) (k : Nat) (hk : k < ws.length) {P : UInt8 → Prop} (h : ∀ c ∈ ws.getD k [], P c) (j : Nat) (h1 : sAt ws k ≤ j) (h2 : j < eAt ws k) : ∃ c, P c ∧ bt t j = c.toNat := by
  unfold eAt at h2
  have hb := bt_word ht k hk (j - sAt ws k) (by omega)
  rw [show sAt ws k + (j - sAt ws k) = j by omega] at hb
  refine ⟨_, h _ ?_, hb⟩
  rw [getD_lt (show j - sAt ws k < (ws.getD k []).length by omega)]
  exact List.getElem_mem _

/-! Numbers. -/
def valOf (l : List UInt8) : Nat := l.foldl (fun n c => n * 10 + (c.toNat - 48)) 0
theorem valOf_snoc (l : List UInt8) (c : UInt8) : valOf (l ++ [c]) = valOf l * 10 + (c.toNat - 48) := by simp [valOf]
theorem dec_val (u : Nat) : valOf (Lib.decDigits u) = u := by
  induction u using Nat.strongRecOn with
  | _ u ih =>
    by_cases h : u < 10
    · rw [Lib.decDigits_one h]
      simp [valOf]
      omega
    · rw [Lib.decDigits, dif_neg h, valOf_snoc, ih (u / 10) (by omega)]
      simp
      omega
theorem dec_digit (u : Nat) : ∀ c ∈ Lib.decDigits u, 48 ≤ c.toNat ∧ c.toNat ≤ 57 := by
  induction u using Nat.strongRecOn with
  | _ u ih =>
    by_cases h : u < 10
    · rw [Lib.decDigits_one h]
      intro c hc
      simp at hc
      subst hc
      simp
      omega
    · rw [Lib.decDigits, dif_neg h]
      intro c hc
      rcases List.mem_append.1 hc with hc | hc
      · exact ih (u / 10) (by omega) c hc
      · simp at hc
        subst hc
        simp
        omega
theorem dec_len (k u : Nat) (h : u < 10 ^ (k + 1)) : (Lib.decDigits u).length ≤ k + 1 := by
  rw [Lib.decDigits_length]
  induction k generalizing u with
  | zero => rw [Lib.nDigits_small (by simpa using h)]; omega
  | succ k ih =>
    by_cases h10 : u < 10
    · rw [Lib.nDigits_small h10]; omega
    · rw [Lib.nDigits_big h10]
      have := ih (u / 10) (by rw [Nat.pow_succ] at h; omega)
      omega
theorem dec_pos (u : Nat) : 0 < (Lib.decDigits u).length := by
  rw [Lib.decDigits_length]
  exact Lib.nDigits_pos u
theorem num_word {t : ByteArray} {ws : List (List UInt8)} {r : List UInt8} (ht : t.data.toList = join ws r) (k : Nat) (hk : k < ws.length) : numTo t (sAt ws k) (ws.getD k []).length = valOf (ws.getD k []) := by
  have h : ∀ i, i ≤ (ws.getD k []).length → numTo t (sAt ws k) i = valOf ((ws.getD k []).take i) := by
    intro i hi
    induction i with
    | zero => rfl
    | succ i ih =>
      have hlt : i < (ws.getD k []).length := by omega
      show numTo t (sAt ws k) i * 10 + (bt t (sAt ws k + i) - 48) = _
      rw [ih (by omega), bt_word ht k hk i hlt, List.take_succ_eq_append_getElem hlt, valOf_snoc, getD_lt hlt]
  rw [h _ (Nat.le_refl _), List.take_length]

/-- How many spaces stand ahead of the end of word k: k. -/
theorem Seven.count {t : ByteArray} {s e : Nat → Nat} {comp prio port : Nat} (h : Seven t s e comp prio port) (k : Nat) (hk : k < 7) : cnt t (e k) = k := by
  have word : ∀ a b, a ≤ b → (∀ j, a ≤ j → j < b → bt t j ≠ 32) → cnt t b = cnt t a := by
    intro a b hab hj
    induction b with
    | zero =>
      obtain rfl : a = 0 := by omega
      rfl
    | succ b ih =>
      by_cases e : a = b + 1
      · rw [e]
      · show cnt t b + _ = _
        rw [if_neg (hj b (by omega) (by omega)), ih (by omega) (fun j h1 h2 => hj j h1 (by omega))]
        rfl
  induction k with
  | zero =>
    have hl := h.le 0 (by omega)
    rw [word (s 0) (e 0) (by omega) (fun j h1 h2 => (h.low 0 (by omega) j h1 h2).2), h.s0]
    rfl
  | succ k ih =>
    have hl := h.le (k + 1) hk
    rw [word (s (k + 1)) (e (k + 1)) (by omega) (fun j h1 h2 => (h.low (k + 1) hk j h1 h2).2), h.next k]
    show cnt t (e k) + _ = _
    rw [if_pos (h.space k (by omega)), ih (by omega)]
end Go.Proofs.YtmfdbcfpcifmcaaGreatDoor

namespace Go.Proofs.YtmfdbcfpcifmcaaGreatDoor
open Go.RowKit Go.Proofs.YtmfdbcfpcifmcaaGreatDoor.PFnFormat

theorem fold_app {α : Type} (f : ByteArray → α → ByteArray) (g : α → ByteArray) (hf : ∀ t x, f t x = t ++ g x) (l : List α) : ∀ t, ∃ r, l.foldl f t = t ++ r := by
  induction l with
  | nil => intro t; exact ⟨⟨#[]⟩, by apply ByteArray.ext; simp⟩
  | cons a l ih =>
    intro t
    obtain ⟨r, hr⟩ := ih (f t a)
    exact ⟨g a ++ r, by rw [List.foldl_cons, hr, hf]; apply ByteArray.ext; simp⟩

def wordsOf (tcpB : Bool) (found : ByteArray) (comp prio : Nat) (addr : ByteArray) (port : Nat) : List (List UInt8) :=
  [found.data.toList, Lib.decDigits comp, (trStr tcpB).data.toList, Lib.decDigits prio, addr.data.toList, Lib.decDigits port, [116, 121, 112]]

theorem text_join (k : Nat) (tcpB : Bool) (tt : Int) (found : ByteArray) (comp prio : Nat) (addr : ByteArray) (port : Nat) (rels : List S60) (exts : List S63) :
    ∃ r, (textOf k tcpB tt found comp prio addr port rels exts).data.toList = join (wordsOf tcpB found comp prio addr port) r := by
  obtain ⟨r1, h1⟩ := fold_app relAdd (fun x => ⟨#[32, 114, 97, 100, 100, 114, 32]⟩ ++ x.f0 ++ ⟨#[32, 114, 112, 111, 114, 116, 32]⟩ ++ decStr x.f1.toNat) (fun _ _ => rfl) rels (headOf k tcpB found comp prio addr port)
  obtain ⟨r2, h2⟩ : ∃ r, tcpAdd (rels.foldl relAdd (headOf k tcpB found comp prio addr port)) tt = rels.foldl relAdd (headOf k tcpB found comp prio addr port) ++ r := by
    unfold tcpAdd
    split
    · exact ⟨⟨#[]⟩, by apply ByteArray.ext; simp⟩
    · exact ⟨_, rfl⟩
  obtain ⟨r3, h3⟩ := fold_app extAdd (fun x => ⟨#[32]⟩ ++ x.f0 ++ ⟨#[32]⟩ ++ x.f1) (fun _ _ => rfl) exts (tcpAdd (rels.foldl relAdd (headOf k tcpB found comp prio addr port)) tt)
  refine ⟨(kindStr k).data.toList ++ (r1.data.toList ++ (r2.data.toList ++ r3.data.toList)), ?_⟩
  unfold textOf
  rw [h3, h2, h1]
  unfold headOf wordsOf decStr
  simp [join]

theorem word_mem {s : ByteArray} {m : Int} (h : Word s m) : ∀ c ∈ s.data.toList, isCh c.toNat := by
  intro c hc
  obtain ⟨i, hi, rfl⟩ := List.mem_iff_getElem.1 hc
  have e1 : s.data.toList.length = s.size := Array.length_toList
  have := h.2.2 i (by omega)
  have e2 : s.data.toList[i] = s[i]'(by omega) := by simp; rfl
  rw [e2]
  exact this
theorem addr_mem {six : Bool} {s : ByteArray} (h : addrText six s) : ∀ c ∈ s.data.toList, c.toNat < 128 ∧ c.toNat ≠ 32 ∧ c.toNat ≠ 37 := by
  cases six with
  | false =>
    intro c hc
    obtain ⟨i, hi, rfl⟩ := List.mem_iff_getElem.1 hc
    have := Ip.letters (show Ip.Ok s.data.toList from h) i hi
    omega
  | true => rcases h with rfl | rfl | rfl | rfl | rfl <;> decide
theorem addr_len {six : Bool} {s : ByteArray} (h : addrText six s) : 0 < s.data.toList.length := by
  have := addr_pos h
  have e1 : s.data.toList.length = s.size := Array.length_toList
  omega

theorem sevenText (k : Nat) (tcpB six : Bool) (tt : Int) (found : ByteArray) (hw : Word found 32) (comp prio : Nat) (addr : ByteArray) (ha : addrText six addr) (port : Nat) (hc : comp ≤ 65535) (hp : prio ≤ 4294967295) (hpo : port ≤ 65535) (rels : List S60) (exts : List S63) :
    Seven (textOf k tcpB tt found comp prio addr port rels exts) (sAt (wordsOf tcpB found comp prio addr port)) (eAt (wordsOf tcpB found comp prio addr port)) comp prio port := by
  obtain ⟨r, hr⟩ := text_join k tcpB tt found comp prio addr port rels exts
  generalize textOf k tcpB tt found comp prio addr port rels exts = t at hr
  have hfl : found.data.toList.length = found.size := Array.length_toList
  have hf0 := hw.1
  have hf32 := hw.2.1
  have cases7 : ∀ j, j < 7 → j = 0 ∨ j = 1 ∨ j = 2 ∨ j = 3 ∨ j = 4 ∨ j = 5 ∨ j = 6 := fun j hj => by omega
  have hlen : (wordsOf tcpB found comp prio addr port).length = 7 := rfl
  have hcl : ∀ j, j < 7 → ∀ c ∈ (wordsOf tcpB found comp prio addr port).getD j [], c.toNat < 128 ∧ c.toNat ≠ 32 := by
    intro j hj
    rcases cases7 j hj with rfl | rfl | rfl | rfl | rfl | rfl | rfl
    · intro c hc
      have := word_mem hw c hc
      unfold isCh at this
      omega
    · intro c hc
      have := dec_digit comp c hc
      omega
    · show ∀ c ∈ (trStr tcpB).data.toList, c.toNat < 128 ∧ c.toNat ≠ 32
      cases tcpB <;> decide
    · intro c hc
      have := dec_digit prio c hc
      omega
    · intro c hc
      have := addr_mem ha c hc
      omega
    · intro c hc
      have := dec_digit port c hc
      omega
    · show ∀ c ∈ ([116, 121, 112] : List UInt8), c.toNat < 128 ∧ c.toNat ≠ 32
      decide
  have hne : ∀ j, j < 7 → 0 < ((wordsOf tcpB found comp prio addr port).getD j []).length := by
    intro j hj
    rcases cases7 j hj with rfl | rfl | rfl | rfl | rfl | rfl | rfl
    · show 0 < found.data.toList.length
      omega
    · exact dec_pos comp
    · show 0 < (trStr tcpB).data.toList.length
      cases tcpB <;> decide
    · exact dec_pos prio
    · exact addr_len ha
    · exact dec_pos port
    · show 0 < ([116, 121, 112] : List UInt8).length
      decide
  have hl1 := dec_len 4 comp (by omega)
  have hl3 := dec_len 9 prio (by omega)
  have hl5 := dec_len 4 port (by omega)
  refine { s0 := rfl, next := fun _ => rfl, le := fun j hj => ?_, size := size_gt hr 6 (by omega), low := fun j hj i h1 h2 => ?_, space := fun j hj => bt_space hr j (by omega), ch := fun j hj => ?_, len0 := ?_, dig := fun j hj i h1 h2 => ?_, len1 := ?_, len3 := ?_, len5 := ?_,
           num1 := ?_, num3 := ?_, num5 := ?_, hcomp := hc, hprio := hp, hport := hpo, noCut := fun j h1 h2 => ?_, typ := ?_ }
  · have := hne j hj
    unfold eAt
    omega
  · obtain ⟨c, hc', hb⟩ := word_all hr j (by omega) (hcl j hj) i h1 h2
    rw [hb]
    exact hc'
  · obtain ⟨c, hc', hb⟩ := word_all hr 0 (by omega) (P := fun c => isCh c.toNat) (fun c hc => word_mem hw c hc) j (Nat.zero_le _) hj
    rw [hb]
    exact hc'
  · show 0 + found.data.toList.length ≤ 32
    omega
  · have hd : ∀ c ∈ (wordsOf tcpB found comp prio addr port).getD j [], 48 ≤ c.toNat ∧ c.toNat ≤ 57 := by
      rcases hj with rfl | rfl | rfl
      · exact fun c hc => dec_digit comp c hc
      · exact fun c hc => dec_digit prio c hc
      · exact fun c hc => dec_digit port c hc
    obtain ⟨c, hc', hb⟩ := word_all hr j (by omega) hd i h1 h2
    rw [hb]
    exact hc'
  · show sAt _ 1 + (Lib.decDigits comp).length - sAt _ 1 ≤ 5
    omega
  · show sAt _ 3 + (Lib.decDigits prio).length - sAt _ 3 ≤ 10
    omega
  · show sAt _ 5 + (Lib.decDigits port).length - sAt _ 5 ≤ 5
    omega
  · rw [show eAt (wordsOf tcpB found comp prio addr port) 1 - sAt (wordsOf tcpB found comp prio addr port) 1 = ((wordsOf tcpB found comp prio addr port).getD 1 []).length by unfold eAt; omega, num_word hr 1 (by omega)]
    exact dec_val comp
  · rw [show eAt (wordsOf tcpB found comp prio addr port) 3 - sAt (wordsOf tcpB found comp prio addr port) 3 = ((wordsOf tcpB found comp prio addr port).getD 3 []).length by unfold eAt; omega, num_word hr 3 (by omega)]
    exact dec_val prio
  · rw [show eAt (wordsOf tcpB found comp prio addr port) 5 - sAt (wordsOf tcpB found comp prio addr port) 5 = ((wordsOf tcpB found comp prio addr port).getD 5 []).length by unfold eAt; omega, num_word hr 5 (by omega)]
    exact dec_val port
  · obtain ⟨c, hc', hb⟩ := word_all hr 4 (by omega) (P := fun c => c.toNat ≠ 37) (fun c hc => (addr_mem ha c hc).2.2) j h1 h2
    rw [hb]
    exact hc'
  · have h6 := drop_sAt (wordsOf tcpB found comp prio addr port) r 6 (by omega)
    rw [join_drop _ _ 6 (by omega), ← hr] at h6
    apply ByteArray.ext
    apply Array.toList_inj.1
    rw [Lib.extract_data, h6, show eAt (wordsOf tcpB found comp prio addr port) 6 - sAt (wordsOf tcpB found comp prio addr port) 6 = 3 by unfold eAt; simp [wordsOf]]
    rfl
end Go.Proofs.YtmfdbcfpcifmcaaGreatDoor
