/- spec.Proper whole; what zzFits1 and candidate compute; the argument opened; Preferences of a host; FnLocal's walk. -/
import Derived.Test.YtmfdbcfpcifmcaaGreatDoorProperB1
import Derived.Test.YtmfdbcfpcifmcaaGreatDoorProperB2
import Derived.Test.YtmfdbcfpcifmcaaGreatDoorProperB3
import Derived.Test.YtmfdbcfpcifmcaaGreatDoorProperB4
import Derived.Test.YtmfdbcfpcifmcaaGreatDoorProperG
import Derived.Test.YtmfdbcfpcifmcaaGreatDoorPFnFormatx3
import Derived.Test.YtmfdbcfpcifmcaaGreatDoorPFnFormatx4
import Derived.IntWalk
import Derived.Test.YtmfdbcfpcifmcaaGreatDoorClose
import Derived.Test.YtmfdbcfpcifmcaaGreatDoorPFnFormatx0
import Derived.Deep.Slices
import Derived.Deep.Fields
import Derived.ChangeSame
import Derived.Lib.SmallJoins
import Derived.Test.YtmfdbcfpcifmcaaGreatDoorPrefs
namespace Go.Proofs.YtmfdbcfpcifmcaaGreatDoor
open Go.RowKit Go.Proofs.YtmfdbcfpcifmcaaGreatDoorW.PrintWords Go.Proofs.YtmfdbcfpcifmcaaGreatDoor.PFnFormat

theorem proper (kind net tcp : Int) (found : ByteArray) (hfs : found.size ≤ 2147483647) (comp prio : Int) (addr : ByteArray) (has : addr.size ≤ 2147483647) (port : Int) (A8 A9 : Option Addr) (m8 m9 : Nat) (rels : List S60) (exts : List S63) (w : World)
    (hn8 : rels.length ≤ 2147483647) (hn9 : exts.length ≤ 2147483647) (hc9 : exts.length ≤ m9) (hs8 : ∀ x ∈ rels, x.f0.size ≤ 2147483647) (hs9 : ∀ x ∈ exts, x.f0.size ≤ 2147483647 ∧ x.f1.size ≤ 2147483647)
    (h8 : Kd.C k60 w A8 rels.length rels) (h9 : Kd.C k63 w A9 exts.length exts) :
    Calls Tryz.prog 13 #[.agg #[.int .i64 kind, .int .i64 net, .int .i64 tcp, .string found, .int .i64 comp, .int .u32 prio, .string addr, .int .i64 port, .slice A8 rels.length m8, .slice A9 exts.length m9]] w fun e w' =>
      Says (IsProper kind net tcp found comp prio addr port rels exts) e ∧ Below w.heap.size w w' := by
  have B : ∀ b : Bool, b = false ∨ b = true := fun b => by cases b <;> simp
  rcases B (decide (kind < 1)) with q0 | q0
  case inr => exact proper_no1 kind net tcp found hfs comp prio addr has port A8 A9 m8 m9 rels exts w _ (.inl q0)
  rcases B (decide (kind > 4)) with q1 | q1
  case inr => exact proper_no1 kind net tcp found hfs comp prio addr has port A8 A9 m8 m9 rels exts w _ (.inr (.inl q1))
  rcases B (decide (net < 1)) with q2 | q2
  case inr => exact proper_no1 kind net tcp found hfs comp prio addr has port A8 A9 m8 m9 rels exts w _ (.inr (.inr (.inl q2)))
  rcases B (decide (net > 4)) with q3 | q3
  case inr => exact proper_no1 kind net tcp found hfs comp prio addr has port A8 A9 m8 m9 rels exts w _ (.inr (.inr (.inr q3)))
  rcases B (decide (comp < 1)) with q4 | q4
  case inr => exact proper_no2 kind net tcp found hfs comp prio addr has port A8 A9 m8 m9 rels exts w _ q0 q1 q2 q3 (.inl q4)
  rcases B (decide (comp > 256)) with q5 | q5
  case inr => exact proper_no2 kind net tcp found hfs comp prio addr has port A8 A9 m8 m9 rels exts w _ q0 q1 q2 q3 (.inr (.inl q5))
  rcases B (prio == 0) with q6 | q6
  case inr => exact proper_no2 kind net tcp found hfs comp prio addr has port A8 A9 m8 m9 rels exts w _ q0 q1 q2 q3 (.inr (.inr q6))
  rcases B (decide (port < 0)) with q7 | q7
  case inr => exact proper_no3 kind net tcp found hfs comp prio addr has port A8 A9 m8 m9 rels exts w _ q0 q1 q2 q3 q4 q5 q6 (.inl q7)
  rcases B (decide (port > 65535)) with q8 | q8
  case inr => exact proper_no3 kind net tcp found hfs comp prio addr has port A8 A9 m8 m9 rels exts w _ q0 q1 q2 q3 q4 q5 q6 (.inr (.inl q8))
  rcases B (decide ((rels.length : Int) > 1)) with q9 | q9
  case inr => exact proper_no3 kind net tcp found hfs comp prio addr has port A8 A9 m8 m9 rels exts w _ q0 q1 q2 q3 q4 q5 q6 (.inr (.inr (.inl q9)))
  rcases B (decide ((exts.length : Int) > 5)) with q10 | q10
  case inr => exact proper_no3 kind net tcp found hfs comp prio addr has port A8 A9 m8 m9 rels exts w _ q0 q1 q2 q3 q4 q5 q6 (.inr (.inr (.inr q10)))
  have no4 := proper_no4 kind net tcp found hfs comp prio addr has port A8 A9 m8 m9 rels exts w (IsProper kind net tcp found comp prio addr port rels exts) q0 q1 q2 q3 q4 q5 q6 q7 q8 q9 q10
  have no5 := proper_no5 kind net tcp found hfs comp prio addr has port A8 A9 m8 m9 rels exts w (IsProper kind net tcp found comp prio addr port rels exts) q0 q1 q2 q3 q4 q5 q6 q7 q8 q9 q10
  have no6 := proper_no6 kind net tcp found hfs comp prio addr has port A8 A9 m8 m9 rels exts w (IsProper kind net tcp found comp prio addr port rels exts) q0 q1 q2 q3 q4 q5 q6 q7 q8 q9 q10
  have no7 := proper_no7 kind net tcp found hfs comp prio addr has port A8 A9 m8 m9 rels exts w (IsProper kind net tcp found comp prio addr port rels exts) q0 q1 q2 q3 q4 q5 q6 q7 q8 q9 q10
  have yes := proper_yes kind net tcp found hfs comp prio addr has port A8 A9 m8 m9 rels exts w hn8 hn9 hc9 hs8 hs9 h8 h9 q0 q1 q2 q3 q4 q5 q6 q7 q8 q9 q10
  rcases B (kind == 1) with k1 | k1 <;> rcases B ((rels.length : Int) == 0) with k2 | k2
  case inl.inr => exact no4 (.inr ⟨k1, k2⟩)
  case inr.inl => exact no4 (.inl ⟨k1, k2⟩)
  all_goals
    rcases B (decide (tcp < 0)) with q13 | q13
    case inr => exact no5 (by first | exact .inl ⟨k1, k2⟩ | exact .inr ⟨k1, k2⟩) (.inl q13)
    rcases B (decide (tcp > 3)) with q14 | q14
    case inr => exact no5 (by first | exact .inl ⟨k1, k2⟩ | exact .inr ⟨k1, k2⟩) (.inr ⟨q13, q14⟩)
    rcases B (net == 3 || net == 4) with q12 | q12 <;> rcases B (decide (tcp > 0)) with q15 | q15
    case inl.inr => exact no6 (by first | exact .inl ⟨k1, k2⟩ | exact .inr ⟨k1, k2⟩) q13 q14 (.inr ⟨q12, q15⟩)
    case inr.inl => exact no6 (by first | exact .inl ⟨k1, k2⟩ | exact .inr ⟨k1, k2⟩) q13 q14 (.inl ⟨q12, q15⟩)
    all_goals first
      | exact no7 k1 k2 q13 q14 q12 q15
      | exact yes q13 q14 (.inl ⟨k1, k2, q12, q15⟩)
      | exact yes q13 q14 (.inr (.inl ⟨k1, k2, q12, q15⟩))
      | exact yes q13 q14 (.inr (.inr ⟨k1, k2, q12, q15⟩))
end Go.Proofs.YtmfdbcfpcifmcaaGreatDoor

namespace Go.Proofs.YtmfdbcfpcifmcaaGreatDoor
open Go.RowKit Go.Proofs.YtmfdbcfpcifmcaaGreatDoor.PFnFormat

theorem up_one {i n : Nat} (h : i < n) (hn : n ≤ 9223372036854775807) : wrap64 ((i : Int) + 1) = ((i + 1 : Nat) : Int) := by
  rw [IntWalk.wrap64_in _ (by omega)]
  omega

theorem drop_getD59 (l : List S59) (i : Nat) (h : i < l.length) : l.drop i = rd_T59 l i :: l.drop (i + 1) := by
  rw [List.drop_eq_getElem_cons h]
  simp [rd_T59, List.getD_eq_getElem?_getD, List.getElem?_eq_getElem h]
theorem drop_getD62 (l : List S62) (i : Nat) (h : i < l.length) : l.drop i = rd_T62 l i :: l.drop (i + 1) := by
  rw [List.drop_eq_getElem_cons h]
  simp [rd_T62, List.getD_eq_getElem?_getD, List.getElem?_eq_getElem h]

theorem fits3_some (a : ByteArray) (b : Int) : ∃ r, laws_zzFits3.f a b = some r ∧ (r = true → a.size ≤ 2147483647) := by
  unfold laws_zzFits3.f
  split
  · exact ⟨_, rfl, Bool.noConfusion⟩
  · exact ⟨_, rfl, fun _ => by omega⟩
theorem fits5_some (a b : ByteArray) : ∃ r, laws_zzFits5.f a b = some r ∧ (r = true → a.size ≤ 2147483647 ∧ b.size ≤ 2147483647) := by
  unfold laws_zzFits5.f
  split
  · exact ⟨_, rfl, Bool.noConfusion⟩
  split
  · exact ⟨_, rfl, Bool.noConfusion⟩
  · exact ⟨_, rfl, fun _ => by omega⟩

theorem fits2_l0 (l : List S59) (hl : l.length ≤ 2147483647) (q : Nat) : ∀ m i, i + m = l.length → ∃ r, laws_zzFits2.l0 (m + 1 + q) l l.length i = some r ∧ (r = true → ∀ x ∈ l.drop i, x.f0.size ≤ 2147483647)
  | 0, i, h => by
    have h1 : 0 + 1 + q = q + 1 := by omega
    rw [h1]
    unfold laws_zzFits2.l0
    rw [if_neg (by omega)]
    exact ⟨_, rfl, fun _ x hx => by rw [List.drop_of_length_le (by omega)] at hx; cases hx⟩
  | m + 1, i, h => by
    have h1 : m + 1 + 1 + q = (m + 1 + q) + 1 := by omega
    rw [h1]
    unfold laws_zzFits2.l0
    rw [if_pos (by omega), if_pos (by omega), if_pos (by omega), up_one (n := l.length) (by omega) (by omega)]
    obtain ⟨r, hr, hrs⟩ := fits3_some (rd_T59 l i).f0 (rd_T59 l i).f1
    obtain ⟨r', hr', hrs'⟩ := fits2_l0 l hl q m (i + 1) (by omega)
    rw [hr]
    simp only [Option.bind_some]
    split
    · rename_i hrt
      refine ⟨r', hr', fun h x hx => ?_⟩
      rw [drop_getD59 l i (by omega)] at hx
      rcases List.mem_cons.1 hx with rfl | hx
      · exact hrs hrt
      · exact hrs' h x hx
    · exact ⟨_, rfl, Bool.noConfusion⟩
theorem fits4_l0 (l : List S62) (hl : l.length ≤ 2147483647) (q : Nat) : ∀ m i, i + m = l.length → ∃ r, laws_zzFits4.l0 (m + 1 + q) l l.length i = some r ∧ (r = true → ∀ x ∈ l.drop i, x.f0.size ≤ 2147483647 ∧ x.f1.size ≤ 2147483647)
  | 0, i, h => by
    have h1 : 0 + 1 + q = q + 1 := by omega
    rw [h1]
    unfold laws_zzFits4.l0
    rw [if_neg (by omega)]
    exact ⟨_, rfl, fun _ x hx => by rw [List.drop_of_length_le (by omega)] at hx; cases hx⟩
  | m + 1, i, h => by
    have h1 : m + 1 + 1 + q = (m + 1 + q) + 1 := by omega
    rw [h1]
    unfold laws_zzFits4.l0
    rw [if_pos (by omega), if_pos (by omega), if_pos (by omega), up_one (n := l.length) (by omega) (by omega)]
    obtain ⟨r, hr, hrs⟩ := fits5_some (rd_T62 l i).f0 (rd_T62 l i).f1
    obtain ⟨r', hr', hrs'⟩ := fits4_l0 l hl q m (i + 1) (by omega)
    rw [hr]
    simp only [Option.bind_some]
    split
    · rename_i hrt
      refine ⟨r', hr', fun h x hx => ?_⟩
      rw [drop_getD62 l i (by omega)] at hx
      rcases List.mem_cons.1 hx with rfl | hx
      · exact hrs hrt
      · exact hrs' h x hx
    · exact ⟨_, rfl, Bool.noConfusion⟩

theorem fits_some (a0 a1 a2 : Int) (a3 : ByteArray) (a4 a5 : Int) (a6 : ByteArray) (a7 : Int) (l8 : List S59) (l9 : List S62) :
    ∃ k r, laws_zzFits1.f k a0 a1 a2 a3 a4 a5 a6 a7 l8 l9 = some r ∧ (r = true → l8.length ≤ 2147483647 ∧ l9.length ≤ 2147483647 ∧ a3.size ≤ 2147483647 ∧ a6.size ≤ 2147483647 ∧ (∀ x ∈ l8, x.f0.size ≤ 2147483647) ∧ (∀ x ∈ l9, x.f0.size ≤ 2147483647 ∧ x.f1.size ≤ 2147483647)) := by
  refine ⟨l8.length + 1 + (l9.length + 1), ?_⟩
  unfold laws_zzFits1.f
  split
  · exact ⟨_, rfl, fun h => by cases h⟩
  split
  · exact ⟨_, rfl, fun h => by cases h⟩
  unfold laws_zzFits2.f
  split
  · exact ⟨_, rfl, fun h => by simp at h⟩
  · rename_i h8
    obtain ⟨r, hr, hrs⟩ := fits2_l0 l8 (by omega) (l9.length + 1) l8.length 0 (by omega)
    simp only [Int.ofNat_zero] at hr
    rw [hr]
    simp only [Option.bind_some]
    split
    · rename_i hrt
      unfold laws_zzFits4.f
      split
      · exact ⟨_, rfl, fun h => by simp at h⟩
      · rename_i h9
        obtain ⟨r', hr', hrs'⟩ := fits4_l0 l9 (by omega) (l8.length + 1) l9.length 0 (by omega)
        have h1 : l8.length + 1 + (l9.length + 1) = l9.length + 1 + (l8.length + 1) := by omega
        simp only [Int.ofNat_zero] at hr'
        rw [h1, hr']
        simp only [Option.bind_some]
        split
        · rename_i hrt'
          exact ⟨_, rfl, fun _ => ⟨by omega, by omega, by omega, by omega, hrs hrt, hrs' hrt'⟩⟩
        · exact ⟨_, rfl, fun h => by cases h⟩
    · exact ⟨_, rfl, fun h => by cases h⟩

def rel60 (x : S59) : S60 := ⟨x.f0, x.f1⟩
def ext63 (x : S62) : S63 := ⟨x.f0, x.f1⟩
theorem cand_l1 (l : List S62) (hl : l.length ≤ 2147483647) (q : Nat) (y0 y1 y2 : Int) (y3 : ByteArray) (y4 y5 : Int) (y6 : ByteArray) (y7 : Int) (y8 : List S60) : ∀ m i acc, i + m = l.length → acc.length = i →
    laws_candidate.l1 (m + 1 + q) l l.length i y0 y1 y2 y3 y4 y5 y6 y7 y8 acc = some (y0, y1, y2, y3, y4, y5, y6, y7, y8, acc ++ (l.drop i).map ext63)
  | 0, i, acc, h, _ => by
    have h1 : 0 + 1 + q = q + 1 := by omega
    rw [h1]
    unfold laws_candidate.l1
    rw [if_neg (by omega), List.drop_of_length_le (by omega)]
    simp
  | m + 1, i, acc, h, ha => by
    have h1 : m + 1 + 1 + q = (m + 1 + q) + 1 := by omega
    rw [h1]
    unfold laws_candidate.l1
    rw [if_pos (by omega), if_pos (by omega), if_pos (by omega), if_pos (by omega), up_one (n := l.length) (by omega) (by omega),
      cand_l1 l hl q y0 y1 y2 y3 y4 y5 y6 y7 y8 m (i + 1) _ (by omega) (by simp [ha]), drop_getD62 l i (by omega)]
    simp [ext63]

theorem cand_l0 (l8 : List S59) (l9 : List S62) (h8 : l8.length ≤ 2147483647) (h9 : l9.length ≤ 2147483647) (x0 x1 x2 : Int) (x3 : ByteArray) (x4 x5 : Int) (x6 : ByteArray) (x7 : Int) (x8 : List S59) (y0 y1 y2 : Int) (y3 : ByteArray) (y4 y5 : Int) (y6 : ByteArray) (y7 : Int) :
    ∀ m i acc, i + m = l8.length → acc.length = i →
    laws_candidate.l0 (m + 1 + (l9.length + 1)) l8 l8.length i x0 x1 x2 x3 x4 x5 x6 x7 x8 l9 y0 y1 y2 y3 y4 y5 y6 y7 acc = some (y0, y1, y2, y3, y4, y5, y6, y7, acc ++ (l8.drop i).map rel60, l9.map ext63)
  | 0, i, acc, h, _ => by
    have h1 : 0 + 1 + (l9.length + 1) = (l9.length + 1) + 1 := by omega
    rw [h1]
    unfold laws_candidate.l0
    rw [if_neg (by omega), List.drop_of_length_le (by omega)]
    have h2 := cand_l1 l9 h9 0 y0 y1 y2 y3 y4 y5 y6 y7 acc l9.length 0 [] (by omega) rfl
    simpa using h2
  | m + 1, i, acc, h, ha => by
    have h1 : m + 1 + 1 + (l9.length + 1) = (m + 1 + (l9.length + 1)) + 1 := by omega
    rw [h1]
    unfold laws_candidate.l0
    rw [if_pos (by omega), if_pos (by omega), if_pos (by omega), if_pos (by omega), up_one (n := l8.length) (by omega) (by omega),
      cand_l0 l8 l9 h8 h9 x0 x1 x2 x3 x4 x5 x6 x7 x8 y0 y1 y2 y3 y4 y5 y6 y7 m (i + 1) _ (by omega) (by simp [ha]), drop_getD59 l8 i (by omega)]
    simp [rel60]

theorem cand_some (a0 a1 a2 : Int) (a3 : ByteArray) (a4 a5 : Int) (a6 : ByteArray) (a7 : Int) (l8 : List S59) (l9 : List S62) (h8 : l8.length ≤ 2147483647) (h9 : l9.length ≤ 2147483647) :
    laws_candidate.f (l8.length + 1 + (l9.length + 1)) a0 a1 a2 a3 a4 a5 a6 a7 l8 l9 = some (a0, a1, a2, a3, a4, a5, a6, a7, l8.map rel60, l9.map ext63) := by
  unfold laws_candidate.f
  have h := cand_l0 l8 l9 h8 h9 a0 a1 a2 a3 a4 a5 a6 a7 l8 a0 a1 a2 a3 a4 a5 a6 a7 l8.length 0 [] (by omega) rfl
  simpa using h
end Go.Proofs.YtmfdbcfpcifmcaaGreatDoor

namespace Go.Proofs.YtmfdbcfpcifmcaaGreatDoor
open Go.Joins Go.ChangeShapes Go.WideShapes Go.ChangeAt Go.RowKit Go.Deep
open Go.Proofs.YtmfdbcfpcifmcaaGreatDoorW.PrintWords
open Go.Proofs.YtmfdbcfpcifmcaaGreatDoor.PFnFormat

section
variable {H : Type} {enc : TypeId × Value → H} {P : Program} {w : World} {base : Nat} {spare : Nat → Bool} {held : Bool}
theorem open_slice_fields {t e : TypeId} {fs : Array Field} {fuel : Nat} {cs : List Value} {x : DataW H × List MemPlace} (ht : P.underlying t = some (.slice e)) (he : P.underlying e = some (.struct fs))
    (hone : oneCellFields P fs = true) (hC : P.cellsOf e = fs.size) (h : DataW.trod enc P w base spare held fuel t cs = some x) :
    (cs = [.slice none 0 0] ∧ x = (.nil, [])) ∨
    ∃ (a : Addr) (len cap m : Nat) (D : Nat → DataW H) (Pl : Nat → List MemPlace), cs = [.slice (some a) len cap] ∧ base ≤ a.block ∧ len ≤ cap ∧ cap ≤ maxLen ∧ m = (if spare a.block then cap else len) ∧
      x = (.slice ((List.range len).map D) ((List.range (m - len)).map fun j => D (len + j)), MemPlace.row a (m * fs.size) ++ (List.range m).flatMap Pl) ∧
      ∀ i, i < m → ∃ (ys : List (DataW H × List MemPlace)) (n : Nat), D i = .agg (ys.map (·.1)) ∧ Pl i = ys.flatMap (·.2) ∧ ys.length = fs.size ∧
        ∀ (j : Nat) (f : Field), fs[j]? = some f → ∃ (v : Value) (y : DataW H × List MemPlace), w.cell? (a.add (i * fs.size + j)) = some v ∧ ys[j]? = some y ∧ DataW.trod enc P w base spare held n f.type [v] = some y := by
  rcases open_slice ht h with h0 | ⟨a, len, cap, m, n, D, Pl, hcs, hb, hl, hm, hmm, hx, hi⟩
  · exact .inl h0
  · refine .inr ⟨a, len, cap, m, D, Pl, hcs, hb, hl, hm, hmm, by rw [hC] at hx; exact hx, fun i him => ?_⟩
    obtain ⟨cs', hc, ht'⟩ := hi i him
    rw [hC] at hc
    obtain ⟨ys, n', hn', hy, hlen, hyl, hf⟩ := DataW.trod_struct he ht'
    obtain ⟨_, hcl, hat⟩ := World.cells?_some hc
    simp only [Prod.mk.injEq] at hy
    refine ⟨ys, n', hy.1, hy.2, hyl, fun j f hj => ?_⟩
    obtain ⟨ho, hk⟩ := hone_of hone j f hj
    have hjl : j < fs.size := (Array.getElem?_eq_some_iff.1 hj).1
    have hcell := hat j hjl
    have hv : cs'[j]? = some (cs'[j]'(by omega)) := List.getElem?_eq_getElem (by omega)
    have h1 := hf j f hj
    rw [ho, hk] at h1
    have hone' : (cs'.drop j).take 1 = [cs'[j]'(by omega)] := by
      rw [List.drop_eq_getElem_cons (by omega)]
      rfl
    rw [hone'] at h1
    have hys : ys[j]? = some (ys[j]'(by omega)) := List.getElem?_eq_getElem (by omega)
    refine ⟨_, _, ?_, hys, h1.trans hys⟩
    rw [← Go.Deep.add_add, hcell, hv]
end

theorem list_of {α : Type} (Q : Nat → α → Prop) : ∀ n, (∀ i, i < n → ∃ x, Q i x) → ∃ l : List α, l.length = n ∧ ∀ j p, l[j]? = some p → Q j p
  | 0, _ => ⟨[], rfl, fun j p h => by simp at h⟩
  | n + 1, h => by
    obtain ⟨l, hl, hq⟩ := list_of Q n (fun i hi => h i (by omega))
    obtain ⟨x, hx⟩ := h n (by omega)
    refine ⟨l ++ [x], by simp [hl], fun j p hj => ?_⟩
    rcases Nat.lt_or_ge j l.length with hlt | hge
    · rw [List.getElem?_append_left hlt] at hj
      exact hq j p hj
    · rw [List.getElem?_append_right hge] at hj
      have hj0 : j - l.length = 0 := by
        rcases Nat.eq_zero_or_pos (j - l.length) with h0 | h0
        · exact h0
        · rw [List.getElem?_eq_none (by simp; omega)] at hj
          cases hj
      rw [hj0] at hj
      have : j = n := by omega
      subst this
      have : x = p := by simpa using hj
      rw [← this]
      exact hx

section
variable {H : Type} {enc : TypeId × Value → H} {w : World}
theorem open_rels {n : Nat} {v : Value} {x : DataW H × List MemPlace} (h : DataW.trod enc Tryz.prog w 0 (fun _ => true) true n 23 [v] = some x) :
    ∃ (A : Option Addr) (c : Nat) (l : List S59), v = .slice A l.length c ∧ l.length ≤ c ∧ Kd.C k59 w A l.length l := by
  rcases open_slice_fields Tryz.underlying23 Tryz.underlying59 (by kernel_rfl) (by kernel_rfl) h with ⟨hv, _⟩ | ⟨a, len, cap, m, D, Pl, hv, _, hlc, hcm, hm, _, hf⟩
  · obtain rfl : v = .slice none 0 0 := by simpa using hv
    exact ⟨none, 0, [], rfl, Nat.le_refl _, rfl, by simp, fun h0 => absurd h0 (Nat.lt_irrefl 0)⟩
  · obtain rfl : v = .slice (some a) len cap := by simpa using hv
    obtain ⟨l, hl, hq⟩ := list_of (fun i (p : S59) => w.cell? (a.add (i * 2)) = some (.string p.f0) ∧ w.cell? (a.add (i * 2 + 1)) = some (.int .i64 p.f1)) len (fun i hi => by
      obtain ⟨ys, n', _, _, _, hfs⟩ := hf i (by simp at hm; omega)
      obtain ⟨v0, y0, hc0, _, ht0⟩ := hfs 0 _ rfl
      obtain ⟨v1, y1, hc1, _, ht1⟩ := hfs 1 _ rfl
      obtain ⟨s, hs, _⟩ := DataW.trod_string Tryz.underlying9 ht0
      obtain ⟨q, hq, _⟩ := DataW.trod_int Tryz.underlying3 ht1
      obtain rfl : v0 = .string s := by simpa using hs
      obtain rfl : v1 = .int .i64 q := by simpa using hq
      exact ⟨⟨s, q⟩, hc0, hc1⟩)
    refine ⟨some a, cap, l, by rw [hl], by omega, rfl, by rw [hl]; unfold maxLen at hcm; omega, fun _ => ⟨a, rfl, fun j p hj => ?_⟩⟩
    obtain ⟨h0, h1⟩ := hq j p hj
    refine ⟨_, rfl, k59_mk w p, fun i u hi => ?_⟩
    match i, hi with
    | 0, hi =>
      obtain rfl : _ = u := by simpa using hi
      exact h0
    | 1, hi =>
      obtain rfl : _ = u := by simpa using hi
      exact h1

theorem open_exts {n : Nat} {v : Value} {x : DataW H × List MemPlace} (h : DataW.trod enc Tryz.prog w 0 (fun _ => true) true n 24 [v] = some x) :
    ∃ (A : Option Addr) (c : Nat) (l : List S62), v = .slice A l.length c ∧ l.length ≤ c ∧ Kd.C k62 w A l.length l := by
  rcases open_slice_fields Tryz.underlying24 Tryz.underlying62 (by kernel_rfl) (by kernel_rfl) h with ⟨hv, _⟩ | ⟨a, len, cap, m, D, Pl, hv, _, hlc, hcm, hm, _, hf⟩
  · obtain rfl : v = .slice none 0 0 := by simpa using hv
    exact ⟨none, 0, [], rfl, Nat.le_refl _, rfl, by simp, fun h0 => absurd h0 (Nat.lt_irrefl 0)⟩
  · obtain rfl : v = .slice (some a) len cap := by simpa using hv
    obtain ⟨l, hl, hq⟩ := list_of (fun i (p : S62) => w.cell? (a.add (i * 2)) = some (.string p.f0) ∧ w.cell? (a.add (i * 2 + 1)) = some (.string p.f1)) len (fun i hi => by
      obtain ⟨ys, n', _, _, _, hfs⟩ := hf i (by simp at hm; omega)
      obtain ⟨v0, y0, hc0, _, ht0⟩ := hfs 0 _ rfl
      obtain ⟨v1, y1, hc1, _, ht1⟩ := hfs 1 _ rfl
      obtain ⟨s, hs, _⟩ := DataW.trod_string Tryz.underlying9 ht0
      obtain ⟨q, hq, _⟩ := DataW.trod_string Tryz.underlying9 ht1
      obtain rfl : v0 = .string s := by simpa using hs
      obtain rfl : v1 = .string q := by simpa using hq
      exact ⟨⟨s, q⟩, hc0, hc1⟩)
    refine ⟨some a, cap, l, by rw [hl], by omega, rfl, by rw [hl]; unfold maxLen at hcm; omega, fun _ => ⟨a, rfl, fun j p hj => ?_⟩⟩
    obtain ⟨h0, h1⟩ := hq j p hj
    refine ⟨_, rfl, k62_mk w p, fun i u hi => ?_⟩
    match i, hi with
    | 0, hi =>
      obtain rfl : _ = u := by simpa using hi
      exact h0
    | 1, hi =>
      obtain rfl : _ = u := by simpa using hi
      exact h1

set_option maxRecDepth 100000 in
/-- The candidate that came in. -/
theorem open_cand {r : Reach} {b0 : Nat} {v : Value} {d : DataW H} {p : List MemPlace} (hv : Value.okWide Tryz.prog w r b0 26 v) (h : DataW.Trod enc Tryz.prog w 0 (fun _ => true) true 26 v d p) :
    ∃ (kind net tcp : Int) (found : ByteArray) (comp prio : Int) (addr : ByteArray) (port : Int) (A8 A9 : Option Addr) (c8 c9 : Nat) (l8 : List S59) (l9 : List S62),
      v = .agg #[.int .i64 kind, .int .i64 net, .int .i64 tcp, .string found, .int .i64 comp, .int .u32 prio, .string addr, .int .i64 port, .slice A8 l8.length c8, .slice A9 l9.length c9] ∧
      l8.length ≤ c8 ∧ l9.length ≤ c9 ∧ Kd.C k59 w A8 l8.length l8 ∧ Kd.C k62 w A9 l9.length l9 ∧
      (Lit.int .i64 kind).wf = true ∧ (Lit.int .i64 net).wf = true ∧ (Lit.int .i64 tcp).wf = true ∧ (Lit.int .i64 comp).wf = true ∧ (Lit.int .u32 prio).wf = true ∧ (Lit.int .i64 port).wf = true := by
  obtain ⟨cs, rfl, hsz⟩ := okWide_struct Tryz.underlying26 hv
  obtain ⟨l⟩ := cs
  have hC : Tryz.prog.cellsOf 26 = 10 := by kernel_rfl
  obtain ⟨fuel, hf⟩ := h
  obtain ⟨xs, n, _, _, _, hlen, hg⟩ := DataW.trod_struct Tryz.underlying26 hf
  have k3 : Tryz.prog.cellsOf 3 = 1 := by kernel_rfl
  have k9 : Tryz.prog.cellsOf 9 = 1 := by kernel_rfl
  have k22 : Tryz.prog.cellsOf 22 = 1 := by kernel_rfl
  have k23 : Tryz.prog.cellsOf 23 = 1 := by kernel_rfl
  have k24 : Tryz.prog.cellsOf 24 = 1 := by kernel_rfl
  have hl : l.length = 10 := hsz.trans hC
  match l, hl with
  | [c0, c1, c2, c3, c4, c5, c6, c7, c8, c9], _ =>
    have g0 : ∃ y, DataW.trod enc Tryz.prog w 0 (fun _ => true) true n 3 [c0] = some y := by
      have h := hg 0 _ rfl
      obtain ⟨y, hy⟩ : ∃ y, xs[0]? = some y := ⟨_, List.getElem?_eq_getElem (by rw [hlen]; decide)⟩
      change DataW.trod enc Tryz.prog w 0 (fun _ => true) true n 3 ([c0, c1, c2, c3, c4, c5, c6, c7, c8, c9].take (Tryz.prog.cellsOf 3)) = _ at h
      rw [k3] at h
      exact ⟨y, h.trans hy⟩
    have g1 : ∃ y, DataW.trod enc Tryz.prog w 0 (fun _ => true) true n 3 [c1] = some y := by
      have h := hg 1 _ rfl
      obtain ⟨y, hy⟩ : ∃ y, xs[1]? = some y := ⟨_, List.getElem?_eq_getElem (by rw [hlen]; decide)⟩
      change DataW.trod enc Tryz.prog w 0 (fun _ => true) true n 3 ([c1, c2, c3, c4, c5, c6, c7, c8, c9].take (Tryz.prog.cellsOf 3)) = _ at h
      rw [k3] at h
      exact ⟨y, h.trans hy⟩
    have g2 : ∃ y, DataW.trod enc Tryz.prog w 0 (fun _ => true) true n 3 [c2] = some y := by
      have h := hg 2 _ rfl
      obtain ⟨y, hy⟩ : ∃ y, xs[2]? = some y := ⟨_, List.getElem?_eq_getElem (by rw [hlen]; decide)⟩
      change DataW.trod enc Tryz.prog w 0 (fun _ => true) true n 3 ([c2, c3, c4, c5, c6, c7, c8, c9].take (Tryz.prog.cellsOf 3)) = _ at h
      rw [k3] at h
      exact ⟨y, h.trans hy⟩
    have g3 : ∃ y, DataW.trod enc Tryz.prog w 0 (fun _ => true) true n 9 [c3] = some y := by
      have h := hg 3 _ rfl
      obtain ⟨y, hy⟩ : ∃ y, xs[3]? = some y := ⟨_, List.getElem?_eq_getElem (by rw [hlen]; decide)⟩
      change DataW.trod enc Tryz.prog w 0 (fun _ => true) true n 9 ([c3, c4, c5, c6, c7, c8, c9].take (Tryz.prog.cellsOf 9)) = _ at h
      rw [k9] at h
      exact ⟨y, h.trans hy⟩
    have g4 : ∃ y, DataW.trod enc Tryz.prog w 0 (fun _ => true) true n 3 [c4] = some y := by
      have h := hg 4 _ rfl
      obtain ⟨y, hy⟩ : ∃ y, xs[4]? = some y := ⟨_, List.getElem?_eq_getElem (by rw [hlen]; decide)⟩
      change DataW.trod enc Tryz.prog w 0 (fun _ => true) true n 3 ([c4, c5, c6, c7, c8, c9].take (Tryz.prog.cellsOf 3)) = _ at h
      rw [k3] at h
      exact ⟨y, h.trans hy⟩
    have g5 : ∃ y, DataW.trod enc Tryz.prog w 0 (fun _ => true) true n 22 [c5] = some y := by
      have h := hg 5 _ rfl
      obtain ⟨y, hy⟩ : ∃ y, xs[5]? = some y := ⟨_, List.getElem?_eq_getElem (by rw [hlen]; decide)⟩
      change DataW.trod enc Tryz.prog w 0 (fun _ => true) true n 22 ([c5, c6, c7, c8, c9].take (Tryz.prog.cellsOf 22)) = _ at h
      rw [k22] at h
      exact ⟨y, h.trans hy⟩
    have g6 : ∃ y, DataW.trod enc Tryz.prog w 0 (fun _ => true) true n 9 [c6] = some y := by
      have h := hg 6 _ rfl
      obtain ⟨y, hy⟩ : ∃ y, xs[6]? = some y := ⟨_, List.getElem?_eq_getElem (by rw [hlen]; decide)⟩
      change DataW.trod enc Tryz.prog w 0 (fun _ => true) true n 9 ([c6, c7, c8, c9].take (Tryz.prog.cellsOf 9)) = _ at h
      rw [k9] at h
      exact ⟨y, h.trans hy⟩
    have g7 : ∃ y, DataW.trod enc Tryz.prog w 0 (fun _ => true) true n 3 [c7] = some y := by
      have h := hg 7 _ rfl
      obtain ⟨y, hy⟩ : ∃ y, xs[7]? = some y := ⟨_, List.getElem?_eq_getElem (by rw [hlen]; decide)⟩
      change DataW.trod enc Tryz.prog w 0 (fun _ => true) true n 3 ([c7, c8, c9].take (Tryz.prog.cellsOf 3)) = _ at h
      rw [k3] at h
      exact ⟨y, h.trans hy⟩
    have g8 : ∃ y, DataW.trod enc Tryz.prog w 0 (fun _ => true) true n 23 [c8] = some y := by
      have h := hg 8 _ rfl
      obtain ⟨y, hy⟩ : ∃ y, xs[8]? = some y := ⟨_, List.getElem?_eq_getElem (by rw [hlen]; decide)⟩
      change DataW.trod enc Tryz.prog w 0 (fun _ => true) true n 23 ([c8, c9].take (Tryz.prog.cellsOf 23)) = _ at h
      rw [k23] at h
      exact ⟨y, h.trans hy⟩
    have g9 : ∃ y, DataW.trod enc Tryz.prog w 0 (fun _ => true) true n 24 [c9] = some y := by
      have h := hg 9 _ rfl
      obtain ⟨y, hy⟩ : ∃ y, xs[9]? = some y := ⟨_, List.getElem?_eq_getElem (by rw [hlen]; decide)⟩
      change DataW.trod enc Tryz.prog w 0 (fun _ => true) true n 24 ([c9].take (Tryz.prog.cellsOf 24)) = _ at h
      rw [k24] at h
      exact ⟨y, h.trans hy⟩
    obtain ⟨y0, e0⟩ := g0
    obtain ⟨y1, e1⟩ := g1
    obtain ⟨y2, e2⟩ := g2
    obtain ⟨y3, e3⟩ := g3
    obtain ⟨y4, e4⟩ := g4
    obtain ⟨y5, e5⟩ := g5
    obtain ⟨y6, e6⟩ := g6
    obtain ⟨y7, e7⟩ := g7
    obtain ⟨y8, e8⟩ := g8
    obtain ⟨y9, e9⟩ := g9
    obtain ⟨s0, hs0, _, w0⟩ := DataW.trod_int Tryz.underlying3 e0
    obtain rfl : c0 = .int .i64 s0 := by simpa using hs0
    obtain ⟨s1, hs1, _, w1⟩ := DataW.trod_int Tryz.underlying3 e1
    obtain rfl : c1 = .int .i64 s1 := by simpa using hs1
    obtain ⟨s2, hs2, _, w2⟩ := DataW.trod_int Tryz.underlying3 e2
    obtain rfl : c2 = .int .i64 s2 := by simpa using hs2
    obtain ⟨s3, hs3, _⟩ := DataW.trod_string Tryz.underlying9 e3
    obtain rfl : c3 = .string s3 := by simpa using hs3
    obtain ⟨s4, hs4, _, w4⟩ := DataW.trod_int Tryz.underlying3 e4
    obtain rfl : c4 = .int .i64 s4 := by simpa using hs4
    obtain ⟨s5, hs5, _, w5⟩ := DataW.trod_int Tryz.underlying22 e5
    obtain rfl : c5 = .int .u32 s5 := by simpa using hs5
    obtain ⟨s6, hs6, _⟩ := DataW.trod_string Tryz.underlying9 e6
    obtain rfl : c6 = .string s6 := by simpa using hs6
    obtain ⟨s7, hs7, _, w7⟩ := DataW.trod_int Tryz.underlying3 e7
    obtain rfl : c7 = .int .i64 s7 := by simpa using hs7
    obtain ⟨A8, m8, l8, rfl, hl8, hC8⟩ := open_rels e8
    obtain ⟨A9, m9, l9, rfl, hl9, hC9⟩ := open_exts e9
    exact ⟨s0, s1, s2, s3, s4, s5, s6, s7, A8, A9, m8, m9, l8, l9, rfl, hl8, hl9, hC8, hC9, w0, w1, w2, w4, w5, w7⟩
end
end Go.Proofs.YtmfdbcfpcifmcaaGreatDoor

namespace Go.Proofs.YtmfdbcfpcifmcaaGreatDoor
open Go.RowKit

set_option maxRecDepth 100000 in
set_option maxHeartbeats 2000000 in
theorem prefsBody (six : Bool) {addr : ByteArray} (ha : addrText six addr) (hs : addr.size ≤ maxLen) (port comp prio tt : Int) (found : ByteArray) (h0 : 0 ≤ port) (h1 : port ≤ 65535) (hc0 : 0 ≤ comp) (hc1 : comp ≤ 65535) (ht0 : 1 ≤ tt) (ht1 : tt ≤ 3)
    (rp xp : Option Addr) (rc xc : Nat) (B : Nat) (w : World) (p4 p6 : Addr) (hG : Glob w p4 p6) (gc g1 g2 gt : Nat) (hB1 : B ≤ g1) (hB2 : B ≤ g2) (hn12 : g1 ≠ g2) (hnt1 : gt ≠ g1) (hnt2 : gt ≠ g2)
    (rc0 : Row w gc 26 #[.int .i64 1, .int .i64 (netNum true six), .int .i64 tt, .string found, .int .i64 comp, .int .u32 prio, .string addr, .int .i64 port, .slice rp 0 rc, .slice xp 0 xc])
    (r1 : Row w g1 3 #[.int .i64 0]) (r2 : Row w g2 3 #[.int .i64 0]) (rt : Row w gt 4 #[.bool false]) (hBw : B ≤ w.heap.size) :
    Calls Tryz.prog 35 #[.pointer (some ⟨gc, 0, none⟩), .pointer (some ⟨g1, 0, none⟩), .pointer (some ⟨g2, 0, none⟩)] w fun e w' =>
      ∃ q, e = .returned (.bool q) ∧ Row w' gt 4 #[.bool false] ∧ (q = true ∧ Row w' g1 3 #[.int .i64 (typePrefOf 1 (netNum true six))] ∧ Row w' g2 3 #[.int .i64 (localPrefOf 1 (netNum true six) tt 0)] ∧ Below B w w') := by
  have hm1 : ∀ (W : World) (a : Addr), (method 378 90 (.pointer (some a)) "TypePreference").run Tryz.prog W = .ok (163, .pointer (some a)) W := fun _ _ => by kernel_rfl
  have hm2 : ∀ (W : World) (a : Addr), (method 378 90 (.pointer (some a)) "LocalPreference").run Tryz.prog W = .ok (153, .pointer (some a)) W := fun _ _ => by kernel_rfl
  have hnn : netNum true six = 3 ∨ netNum true six = 4 := by cases six <;> simp [netNum]
  have hnn1 : 1 ≤ netNum true six := by omega
  have hnn4 : netNum true six ≤ 4 := by omega
  have c0 : w.cell? ⟨gc, 0, none⟩ = some (.int .i64 1) := rc0.cell 0
  have c1 : w.cell? ⟨gc, 1, none⟩ = some (.int .i64 (netNum true six)) := rc0.cell 1
  have c2 : w.cell? ⟨gc, 2, none⟩ = some (.int .i64 tt) := rc0.cell 2
  have c3 : w.cell? ⟨gc, 3, none⟩ = some (.string found) := rc0.cell 3
  have c4 : w.cell? ⟨gc, 4, none⟩ = some (.int .i64 comp) := rc0.cell 4
  have c5 : w.cell? ⟨gc, 5, none⟩ = some (.int .u32 prio) := rc0.cell 5
  have c6 : w.cell? ⟨gc, 6, none⟩ = some (.string addr) := rc0.cell 6
  have c7 : w.cell? ⟨gc, 7, none⟩ = some (.int .i64 port) := rc0.cell 7
  have c8 : w.cell? ⟨gc, 8, none⟩ = some (.slice rp 0 rc) := rc0.cell 8
  have c9 : w.cell? ⟨gc, 9, none⟩ = some (.slice xp 0 xc) := rc0.cell 9
  have hl1 := r1.lt
  have hl2 := r2.lt
  have hlt := rt.lt
  go_enter Tryz.func35, Tryz.ntmps35
  go_wp2_with fail
  refine (madeHost true six ha hs port comp prio tt found h0 h1 hc0 hc1 (by omega) ht1 rp xp rc xc w p4 p6 hG).mono ?_
  rintro e w1 ⟨g, rfl, hb1, hg, hi, lo, p, -, hr⟩
  have s1 := r1.below hb1 hl1
  have s2 := r2.below hb1 hl2
  have st := rt.below hb1 hlt
  have hBx := hb1.mono hBw
  have hsz1 := hb1.size
  clear c0 c1 c2 c3 c4 c5 c6 c7 c8 c9 rc0 r1 r2 rt hb1
  go_wp2_with fail
  refine (typePref g 1 (netNum true six) (by omega) (by omega) hnn1 hnn4 w1 (hr.cell 1) (hr.cell 2)).mono ?_
  rintro e w2 ⟨rfl, rfl⟩
  go_wp2_with fail
  refine (localPrefTcp g 1 (netNum true six) tt 0 (by omega) (by omega) hnn ht0 ht1 w1 (hr.cell 1) (hr.cell 2) (hr.cell 7)).mono ?_
  rintro e w3 ⟨rfl, hb3⟩
  have u1 := s1.below hb3 s1.lt
  have u2 := s2.below hb3 s2.lt
  have ut := st.below hb3 st.lt
  have hBy := hBx.trans (hb3.mono (by omega))
  have d1 : w3.cell? ⟨g1, 0, none⟩ = some (.int .i64 0) := u1.cell 0
  have f1 := u1.free 0
  have d2 : w3.cell? ⟨g2, 0, none⟩ = some (.int .i64 0) := u2.cell 0
  have f2 := u2.free 0
  have hw1 : wrap64 (typePrefOf 1 (netNum true six)) = typePrefOf 1 (netNum true six) := by rcases hnn with h | h <;> rw [h] <;> exact IntWalk.wrap64_in _ (by decide)
  have hs3 : tt = 1 ∨ tt = 2 ∨ tt = 3 := by omega
  have hw2 : wrap64 (localPrefOf 1 (netNum true six) tt 0) = localPrefOf 1 (netNum true six) tt 0 := by rcases hnn with h | h <;> rw [h] <;> rcases hs3 with rfl | rfl | rfl <;> exact IntWalk.wrap64_in _ (by decide)
  clear s1 s2 st hr hb3 hBx
  have z1 := ((u1.set 0 (.int .i64 (typePrefOf 1 (netNum true six)))).far (p := ⟨g2, 0, none⟩) hn12 (.int .i64 (localPrefOf 1 (netNum true six) tt 0)))
  have z2 := ((u2.far (p := ⟨g1, 0, none⟩) (Ne.symm hn12) (.int .i64 (typePrefOf 1 (netNum true six)))).set 0 (.int .i64 (localPrefOf 1 (netNum true six) tt 0)))
  have zt := ((ut.far (p := ⟨g1, 0, none⟩) hnt1 (.int .i64 (typePrefOf 1 (netNum true six)))).far (p := ⟨g2, 0, none⟩) hnt2 (.int .i64 (localPrefOf 1 (netNum true six) tt 0)))
  have zB := below_st (below_st hBy hB1 0 (.int .i64 (typePrefOf 1 (netNum true six)))) hB2 0 (.int .i64 (localPrefOf 1 (netNum true six) tt 0))
  have Z1 := Lib.hid z1
  have Z2 := Lib.hid z2
  have ZT := Lib.hid zt
  have ZB := Lib.hid zB
  clear z1 z2 zt zB u1 u2 ut hBy
  go_wp2_with fail
  go_ret
  exact ⟨true, rfl, ZT.out, rfl, Z1.out, Z2.out, ZB.out⟩

set_option maxRecDepth 100000 in
set_option maxHeartbeats 2000000 in
theorem preferences (six : Bool) {addr : ByteArray} (ha : addrText six addr) (hs : addr.size ≤ maxLen) (port comp prio tt : Int) (found : ByteArray) (h0 : 0 ≤ port) (h1 : port ≤ 65535) (hc0 : 0 ≤ comp) (hc1 : comp ≤ 65535) (ht0 : 1 ≤ tt) (ht1 : tt ≤ 3)
    (rp xp : Option Addr) (rc xc : Nat) (w : World) (p4 p6 : Addr) (hG : Glob w p4 p6) :
    Calls Tryz.prog 16 #[candV 1 (netNum true six) tt found comp prio addr port (.slice rp 0 rc) (.slice xp 0 xc)] w fun e w' =>
      e = .returned (.tuple #[.int .i64 (typePrefOf 1 (netNum true six)), .int .i64 (localPrefOf 1 (netNum true six) tt 0), .bool true]) ∧ Below w.heap.size w w' := by
  have hmf : ∀ (fn : Fn) (first cap : Array Value) (w : World), (Instr.makeFunc fn first cap).run Tryz.prog w = .ok (.func fn first cap) w := fun _ _ _ _ => rfl
  simp only [candV]
  go_enter Tryz.func16, Tryz.ntmps16
  go_wp2_with fail
  obtain ⟨W, hW⟩ : ∃ W, W = ((w.alloc (.cells #[.int .i64 1, .int .i64 (netNum true six), .int .i64 tt, .string found, .int .i64 comp, .int .u32 prio, .string addr, .int .i64 port, .slice rp 0 rc, .slice xp 0 xc] 26)).alloc (.cells #[.int .i64 0] 3)).alloc (.cells #[.int .i64 0] 3) := ⟨_, rfl⟩
  have rc0 : Row W w.heap.size 26 #[.int .i64 1, .int .i64 (netNum true six), .int .i64 tt, .string found, .int .i64 comp, .int .u32 prio, .string addr, .int .i64 port, .slice rp 0 rc, .slice xp 0 xc] := hW ▸ ((Row.new _ _ _).alloc _).alloc _
  have r1 : Row W (w.heap.size + 1) 3 #[.int .i64 0] := by
    have h := (Row.new (w.alloc (.cells #[.int .i64 1, .int .i64 (netNum true six), .int .i64 tt, .string found, .int .i64 comp, .int .u32 prio, .string addr, .int .i64 port, .slice rp 0 rc, .slice xp 0 xc] 26)) 3 #[.int .i64 0]).alloc (.cells #[.int .i64 0] 3)
    rw [hW]
    simpa using h
  have r2 : Row W (w.heap.size + 1 + 1) 3 #[.int .i64 0] := by
    have h := Row.new ((w.alloc (.cells #[.int .i64 1, .int .i64 (netNum true six), .int .i64 tt, .string found, .int .i64 comp, .int .u32 prio, .string addr, .int .i64 port, .slice rp 0 rc, .slice xp 0 xc] 26)).alloc (.cells #[.int .i64 0] 3)) 3 #[.int .i64 0]
    rw [hW]
    simpa using h
  have hsz : W.heap.size = w.heap.size + 3 := by rw [hW]; simp
  have hB : Below w.heap.size w W := by
    rw [hW]
    exact (((Below.refl _ _).alloc (Nat.le_refl _) _).alloc (by simp) _).alloc (by simp; omega) _
  rw [← hW]
  clear hW
  have hBt : Below w.heap.size w (W.alloc (.cells #[.bool false] 4)) := hB.alloc (by omega) _
  have hszt : (W.alloc (.cells #[.bool false] 4)).heap.size = w.heap.size + 4 := by simp [hsz]
  have hbody := prefsBody six ha hs port comp prio tt found h0 h1 hc0 hc1 ht0 ht1 rp xp rc xc w.heap.size (W.alloc (.cells #[.bool false] 4)) p4 p6 (hG.below hBt) w.heap.size (w.heap.size + 1) (w.heap.size + 1 + 1) W.heap.size (by omega) (by omega) (by omega) (by omega) (by omega) (rc0.alloc _) (r1.alloc _) (r2.alloc _) (Row.new _ _ _) (by omega)
  refine (try_ok 35 _ (fun _ => by kernel_rfl) (fun q w' => q = true ∧ Row w' (w.heap.size + 1) 3 #[.int .i64 (typePrefOf 1 (netNum true six))] ∧ Row w' (w.heap.size + 1 + 1) 3 #[.int .i64 (localPrefOf 1 (netNum true six) tt 0)] ∧ Below w.heap.size (W.alloc (.cells #[.bool false] 4)) w') W hbody).mono ?_
  rintro e w' ⟨q, w1, rfl, ⟨rfl, z1, z2, zB⟩, hw'⟩
  have u1 : Row w' (w.heap.size + 1) 3 #[.int .i64 (typePrefOf 1 (netNum true six))] := hw' ▸ z1.far (p := ⟨W.heap.size, 0, none⟩) (by simp only; omega) (.bool true)
  have u2 : Row w' (w.heap.size + 1 + 1) 3 #[.int .i64 (localPrefOf 1 (netNum true six) tt 0)] := hw' ▸ z2.far (p := ⟨W.heap.size, 0, none⟩) (by simp only; omega) (.bool true)
  have hBf : Below w.heap.size w w' := hw' ▸ below_st (hBt.trans zB) (by omega) 0 (.bool true)
  have HBf := Lib.hid hBf
  clear hbody z1 z2 zB hw' hBf hBt hB rc0 r1 r2
  have d1 : w'.cell? ⟨w.heap.size + 1, 0, none⟩ = some (.int .i64 (typePrefOf 1 (netNum true six))) := u1.cell 0
  have f1 := u1.free 0
  have d2 : w'.cell? ⟨w.heap.size + 1 + 1, 0, none⟩ = some (.int .i64 (localPrefOf 1 (netNum true six) tt 0)) := u2.cell 0
  have f2 := u2.free 0
  go_wp2_with fail
  have e1 : (((w'.setCell ⟨w.heap.size + 1, 0, none⟩ (.int .i64 (typePrefOf 1 (netNum true six)))).setCell ⟨w.heap.size + 1 + 1, 0, none⟩ (.int .i64 (localPrefOf 1 (netNum true six) tt 0))).drew).cell? ⟨w.heap.size + 1, 0, none⟩ = some (.int .i64 (typePrefOf 1 (netNum true six))) := (((u1.set 0 (.int .i64 (typePrefOf 1 (netNum true six)))).far (p := ⟨w.heap.size + 1 + 1, 0, none⟩) (by simp) (.int .i64 (localPrefOf 1 (netNum true six) tt 0))).drew).cell 0
  have e2 : (((w'.setCell ⟨w.heap.size + 1, 0, none⟩ (.int .i64 (typePrefOf 1 (netNum true six)))).setCell ⟨w.heap.size + 1 + 1, 0, none⟩ (.int .i64 (localPrefOf 1 (netNum true six) tt 0))).drew).cell? ⟨w.heap.size + 1 + 1, 0, none⟩ = some (.int .i64 (localPrefOf 1 (netNum true six) tt 0)) := (((u2.far (p := ⟨w.heap.size + 1, 0, none⟩) (by simp) (.int .i64 (typePrefOf 1 (netNum true six)))).set 0 (.int .i64 (localPrefOf 1 (netNum true six) tt 0))).drew).cell 0
  have eB : Below w.heap.size w (((w'.setCell ⟨w.heap.size + 1, 0, none⟩ (.int .i64 (typePrefOf 1 (netNum true six)))).setCell ⟨w.heap.size + 1 + 1, 0, none⟩ (.int .i64 (localPrefOf 1 (netNum true six) tt 0))).drew) := (below_st (below_st HBf.out (by omega) 0 (.int .i64 (typePrefOf 1 (netNum true six)))) (by omega) 0 (.int .i64 (localPrefOf 1 (netNum true six) tt 0))).drew
  have E1 := Lib.hid e1
  have E2 := Lib.hid e2
  have EB := Lib.hid eB
  clear e1 e2 eB u1 u2
  go_region
  go_wp2_with fail
  refine bodyPost_ret (v := .tuple #[(.int .i64 (typePrefOf 1 (netNum true six))), (.int .i64 (localPrefOf 1 (netNum true six) tt 0)), .bool true]) ?h1 rfl ⟨rfl, EB.out⟩
  case h1 =>
    have e1 := E1.out
    have e2 := E2.out
    simp [results, Tryz.results16, go_sem, e1, e2]
end Go.Proofs.YtmfdbcfpcifmcaaGreatDoor

namespace Go.Proofs.YtmfdbcfpcifmcaaGreatDoor
open Go.RowKit Go.Proofs.YtmfdbcfpcifmcaaGreatDoorW.PrintWords Go.Proofs.YtmfdbcfpcifmcaaGreatDoor.PFnFormat

theorem rels_sizes {l8 : List S59} (h : ∀ x ∈ l8, x.f0.size ≤ 2147483647) : ∀ x ∈ l8.map rel60, x.f0.size ≤ 2147483647 := by
  intro x hx
  obtain ⟨y, hy, rfl⟩ := List.mem_map.1 hx
  exact h y hy
theorem exts_sizes {l9 : List S62} (h : ∀ x ∈ l9, x.f0.size ≤ 2147483647 ∧ x.f1.size ≤ 2147483647) : ∀ x ∈ l9.map ext63, x.f0.size ≤ 2147483647 ∧ x.f1.size ≤ 2147483647 := by
  intro x hx
  obtain ⟨y, hy, rfl⟩ := List.mem_map.1 hx
  exact h y hy

set_option maxRecDepth 100000 in
set_option maxHeartbeats 4000000 in
theorem fnLocal (kind net tcp : Int) (found : ByteArray) (comp prio : Int) (addr : ByteArray) (port : Int) (A8 A9 : Option Addr) (m8 m9 : Nat) (l8 : List S59) (l9 : List S62) (hc8 : l8.length ≤ m8) (hc9 : l9.length ≤ m9)
    (w : World) (h8 : Kd.C k59 w A8 l8.length l8) (h9 : Kd.C k62 w A9 l9.length l9) (p4 p6 : Addr) (hG : Glob w p4 p6) :
    Calls Tryz.prog 3 #[.agg #[.int .i64 kind, .int .i64 net, .int .i64 tcp, .string found, .int .i64 comp, .int .u32 prio, .string addr, .int .i64 port, .slice A8 l8.length m8, .slice A9 l9.length m9]] w fun e w' =>
      e = .returned (.bool true) ∧ Below w.heap.size w w' := by
  have hb := below_al (Below.refl w.heap.size w) (Nat.le_refl _) (.cells #[.int .i64 kind, .int .i64 net, .int .i64 tcp, .string found, .int .i64 comp, .int .u32 prio, .string addr, .int .i64 port, .slice A8 l8.length m8, .slice A9 l9.length m9] 26)
  have hx := Row.new w 26 #[.int .i64 kind, .int .i64 net, .int .i64 tcp, .string found, .int .i64 comp, .int .u32 prio, .string addr, .int .i64 port, .slice A8 l8.length m8, .slice A9 l9.length m9]
  obtain ⟨kf, rf, hf, hfr⟩ := fits_some kind net tcp found comp prio addr port l8 l9
  have C8 := Kd.C_alloc h8 (.cells #[.int .i64 kind, .int .i64 net, .int .i64 tcp, .string found, .int .i64 comp, .int .u32 prio, .string addr, .int .i64 port, .slice A8 l8.length m8, .slice A9 l9.length m9] 26)
  have C9 := Kd.C_alloc h9 (.cells #[.int .i64 kind, .int .i64 net, .int .i64 tcp, .string found, .int .i64 comp, .int .u32 prio, .string addr, .int .i64 port, .slice A8 l8.length m8, .slice A9 l9.length m9] 26)
  go_enter Tryz.func3, Tryz.ntmps3
  go_wp2_with fail
  generalize w.alloc (.cells #[.int .i64 kind, .int .i64 net, .int .i64 tcp, .string found, .int .i64 comp, .int .u32 prio, .string addr, .int .i64 port, .slice A8 l8.length m8, .slice A9 l9.length m9] 26) = W at *
  refine (laws_zzFits1.calls kf kind net tcp found comp prio addr port A8 m8 l8 A9 m9 l9 rf W C8 hc8 C9 hc9 hf).mono ?_
  rintro e W1 ⟨rfl, hb1⟩
  have hgl := hx.lt
  have hB1 := hb.trans (hb1.mono (Nat.le_of_lt hgl))
  have hx1 := hx.below hb1 hgl
  have D8 := Kd.C_below C8 hb1
  have D9 := Kd.C_below C9 hb1
  have hgl1 := hx1.lt
  clear C8 C9 h8 h9 hx hb hb1 hf
  rcases Bool.eq_false_or_eq_true rf with rfl | rfl
  case inr =>
    go_wp2_with fail
    go_ret
    exact ⟨rfl, hB1⟩
  obtain ⟨n8, n9, sf, sa, s8, s9⟩ := hfr rfl
  have S8 := Lib.hid s8
  have S9 := Lib.hid s9
  clear hfr s8 s9
  have c0 : W1.cell? ⟨w.heap.size, 0, none⟩ = some (.int .i64 kind) := hx1.cell 0
  have c1 : W1.cell? ⟨w.heap.size, 1, none⟩ = some (.int .i64 net) := hx1.cell 1
  have c2 : W1.cell? ⟨w.heap.size, 2, none⟩ = some (.int .i64 tcp) := hx1.cell 2
  have c3 : W1.cell? ⟨w.heap.size, 3, none⟩ = some (.string found) := hx1.cell 3
  have c4 : W1.cell? ⟨w.heap.size, 4, none⟩ = some (.int .i64 comp) := hx1.cell 4
  have c5 : W1.cell? ⟨w.heap.size, 5, none⟩ = some (.int .u32 prio) := hx1.cell 5
  have c6 : W1.cell? ⟨w.heap.size, 6, none⟩ = some (.string addr) := hx1.cell 6
  have c7 : W1.cell? ⟨w.heap.size, 7, none⟩ = some (.int .i64 port) := hx1.cell 7
  have c8 : W1.cell? ⟨w.heap.size, 8, none⟩ = some (.slice A8 l8.length m8) := hx1.cell 8
  have c9 : W1.cell? ⟨w.heap.size, 9, none⟩ = some (.slice A9 l9.length m9) := hx1.cell 9
  go_wp2_with fail
  refine (laws_candidate.calls _ kind net tcp found comp prio addr port A8 m8 l8 A9 m9 l9 kind net tcp found comp prio addr port (l8.map rel60) (l9.map ext63) W1 D8 hc8 D9 hc9 (cand_some kind net tcp found comp prio addr port l8 l9 n8 n9)).mono ?_
  rintro e W2 ⟨v8, v9, rfl, R8, R9, hb2⟩
  obtain ⟨B8, k8, rfl, hk8, E8⟩ := Kd.R_reads R8
  obtain ⟨B9, k9, rfl, hk9, E9⟩ := Kd.R_reads R9
  have hB2 := hB1.trans (hb2.mono (Nat.le_of_lt hgl1))
  have hx2 := hx1.below hb2 hgl1
  have hgl2 := hx2.lt
  clear c0 c1 c2 c3 c4 c5 c6 c7 c8 c9 D8 D9 R8 R9 hx1 hB1 hb2
  go_wp2_with fail
  have hpr := proper kind net tcp found sf comp prio addr sa port B8 B9 k8 k9 (l8.map rel60) (l9.map ext63) (W2.alloc (.cells #[.int .i64 kind, .int .i64 net, .int .i64 tcp, .string found, .int .i64 comp, .int .u32 prio, .string addr, .int .i64 port, .slice B8 l8.length k8, .slice B9 l9.length k9] 31)) (by simpa using n8) (by simpa using n9) (by simpa using hk9) (rels_sizes S8.out) (exts_sizes S9.out)
    (Kd.C_alloc E8 (.cells #[.int .i64 kind, .int .i64 net, .int .i64 tcp, .string found, .int .i64 comp, .int .u32 prio, .string addr, .int .i64 port, .slice B8 l8.length k8, .slice B9 l9.length k9] 31)) (Kd.C_alloc E9 (.cells #[.int .i64 kind, .int .i64 net, .int .i64 tcp, .string found, .int .i64 comp, .int .u32 prio, .string addr, .int .i64 port, .slice B8 l8.length k8, .slice B9 l9.length k9] 31))
  simp only [List.length_map] at hpr
  refine hpr.mono ?_
  rintro e W3 ⟨⟨b, rfl, hbP⟩, hb3⟩
  have ho3 : Row W3 W2.heap.size 31 #[.int .i64 kind, .int .i64 net, .int .i64 tcp, .string found, .int .i64 comp, .int .u32 prio, .string addr, .int .i64 port, .slice B8 l8.length k8, .slice B9 l9.length k9] := (Row.new W2 31 #[.int .i64 kind, .int .i64 net, .int .i64 tcp, .string found, .int .i64 comp, .int .u32 prio, .string addr, .int .i64 port, .slice B8 l8.length k8, .slice B9 l9.length k9]).below hb3 (by simp)
  have hx3 := (hx2.alloc (.cells #[.int .i64 kind, .int .i64 net, .int .i64 tcp, .string found, .int .i64 comp, .int .u32 prio, .string addr, .int .i64 port, .slice B8 l8.length k8, .slice B9 l9.length k9] 31)).below hb3 (by simp; omega)
  have hB3 : Below w.heap.size w W3 := (hB2.alloc hB2.size _).trans (hb3.mono (by simp; have := hB2.size; omega))
  have hgl3 := hx3.lt
  clear hpr E8 E9 hx2 hB2 hb3
  rcases Bool.eq_false_or_eq_true b with rfl | rfl
  case inr =>
    go_wp2_with fail
    refine (works W3).mono ?_
    rintro e w' ⟨rfl, rfl⟩
    go_wp2_with fail
    go_ret
    exact ⟨rfl, hB3⟩
  have hP := hbP rfl
  have HP := Lib.hid hP
  have c1 : W3.cell? ⟨w.heap.size, 1, none⟩ = some (.int .i64 net) := hx3.cell 1
  have o9 : W3.cell? ⟨W2.heap.size, 9, none⟩ = some (.slice B9 l9.length k9) := ho3.cell 9
  have HX := Lib.hid hx3
  have HB := Lib.hid hB3
  clear hbP hP hx3 ho3 hB3
  rcases Bool.eq_false_or_eq_true (net == 3 || net == 4) with hT | hT
  case inr =>
    go_wp2_with (first | (go_at_call 14; refine (specTcpV net false hT _).mono ?_; rintro e w' ⟨rfl, rfl⟩) | (go_at_call 15; refine (works _).mono ?_; rintro e w' ⟨rfl, rfl⟩))
    go_ret
    exact ⟨rfl, HB.out⟩
  by_cases hE0 : l9.length ≠ 0
  · have hE1 : decide (0 < l9.length) = true := decide_eq_true (by omega)
    have hE2 : decide ((0 : Int) < l9.length) = true := decide_eq_true (by omega)
    go_wp2_with (first | (go_at_call 14; refine (specTcpV net true hT _).mono ?_; rintro e w' ⟨rfl, rfl⟩) | (go_at_call 15; refine (works _).mono ?_; rintro e w' ⟨rfl, rfl⟩))
    go_ret
    exact ⟨rfl, HB.out⟩
  have hT0 : net = 3 ∨ net = 4 := by simpa using hT
  replace hE0 : l9.length = 0 := by omega
  have hE1 : decide (0 < l9.length) = false := decide_eq_false (by omega)
  have hE2 : decide ((0 : Int) < l9.length) = false := decide_eq_false (by omega)
  have hk1 : kind = 1 := HP.out.tcp_host hT0
  have h80 : l8.length = 0 := by simpa using HP.out.host.1 hk1
  have hp0 := HP.out.port0
  have hp1 := HP.out.port1
  have hq0 := HP.out.comp1
  have hq1 := HP.out.comp256
  have ht1 : 1 ≤ tcp := by have := HP.out.net_tcp.1 hT0; omega
  have ht3 := HP.out.tcp3
  have ha := HP.out.addr_
  have hx4 := HX.out
  rw [h80, hE0] at hx4
  subst hk1
  have hnet : net = netNum true (decide (¬ (net = 1 ∨ net = 3))) := by rcases hT0 with rfl | rfl <;> rfl
  generalize decide (¬ (net = 1 ∨ net = 3)) = six at hnet ha
  have c5 : W3.cell? ⟨w.heap.size, 5, none⟩ = some (.int .u32 prio) := hx4.cell 5
  have f5 := hx4.free 5
  have HA := Lib.hid ha
  subst hnet
  have d0 : W3.cell? ⟨w.heap.size, 0, none⟩ = some (.int .i64 1) := hx4.cell 0
  have d2 : W3.cell? ⟨w.heap.size, 2, none⟩ = some (.int .i64 tcp) := hx4.cell 2
  have d3 : W3.cell? ⟨w.heap.size, 3, none⟩ = some (.string found) := hx4.cell 3
  have d4 : W3.cell? ⟨w.heap.size, 4, none⟩ = some (.int .i64 comp) := hx4.cell 4
  have d6 : W3.cell? ⟨w.heap.size, 6, none⟩ = some (.string addr) := hx4.cell 6
  have d7 : W3.cell? ⟨w.heap.size, 7, none⟩ = some (.int .i64 port) := hx4.cell 7
  have d8 : W3.cell? ⟨w.heap.size, 8, none⟩ = some (.slice A8 0 m8) := hx4.cell 8
  have d9 : W3.cell? ⟨w.heap.size, 9, none⟩ = some (.slice A9 0 m9) := hx4.cell 9
  clear ha HX HP
  have hx5 := hx4.set 5 (.int .u32 0)
  have hB5 := below_st HB.out (Nat.le_refl _) 5 (.int .u32 0)
  have HX5 := Lib.hid hx5
  have HB5 := Lib.hid hB5
  clear hx5 hB5 hx4
  go_wp2_with (first | (go_at_call 14; refine (specTcpV (netNum true six) true hT _).mono ?_; rintro e w' ⟨rfl, rfl⟩))
  rename_i W4
  refine (preferences six HA.out (Nat.le_trans sa (by unfold maxLen; omega)) port comp 0 tcp found hp0 hp1 (by omega) (by omega) ht1 ht3 A8 A9 m8 m9 _ p4 p6 (hG.below HB5.out)).mono ?_
  rintro e W5 ⟨rfl, hb5⟩
  have hx6 := HX5.out.below hb5 (by simpa using hgl3)
  have hB6 := HB5.out.trans (hb5.mono HB5.out.size)
  have HB6 := Lib.hid hB6
  have e0 : W5.cell? ⟨w.heap.size, 0, none⟩ = some (.int .i64 1) := hx6.cell 0
  have e2 : W5.cell? ⟨w.heap.size, 2, none⟩ = some (.int .i64 tcp) := hx6.cell 2
  clear c1 c5 f5 d0 d2 d3 d4 d6 d7 d8 d9 o9 hx6 hB6 hb5 HX5 HB5 HB
  have heq : (localPrefOf 1 (netNum true six) tcp 0 == dirOf 1 tcp * 8192 + 8191) = true := by
    unfold localPrefOf
    rw [if_neg (by decide), if_pos hT0]
    simp
  go_wp2_with fail
  refine (specLocal 1 tcp (by omega) (by omega) ht1 ht3 W5).mono ?_
  rintro e W6 ⟨rfl, hb6⟩
  have hB7 := HB6.out.trans (hb6.mono HB6.out.size)
  have HB7 := Lib.hid hB7
  clear hb6 hB7 e0 e2
  go_wp2_with fail
  refine (works W6).mono ?_
  rintro e w' ⟨rfl, rfl⟩
  go_wp2_with fail
  go_ret
  exact ⟨rfl, HB7.out⟩
end Go.Proofs.YtmfdbcfpcifmcaaGreatDoor
