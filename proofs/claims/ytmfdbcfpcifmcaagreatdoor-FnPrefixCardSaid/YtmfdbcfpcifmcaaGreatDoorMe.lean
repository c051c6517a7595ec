/- spec.Proper, whole: whatever the candidate is; its yes stands for IsProper. | What the law's first two calls compute: 'zzFits1' tells something, and 'candidate' hands over the argument, list by list. | The law's argument, a candidate of package impl, opened: its numbers, its texts, its two lists. (Merged by merge.py out of ProperAll, Fits, OpenC.) -/
import Derived.Test.YtmfdbcfpcifmcaaGreatDoorProperB1
import Derived.Test.YtmfdbcfpcifmcaaGreatDoorProperB2
import Derived.Test.YtmfdbcfpcifmcaaGreatDoorProperB3
import Derived.Test.YtmfdbcfpcifmcaaGreatDoorProperB4
import Derived.Test.YtmfdbcfpcifmcaaGreatDoorProperG
import Derived.Test.YtmfdbcfpcifmcaaGreatDoorPFnFormatx3
import Derived.Test.YtmfdbcfpcifmcaaGreatDoorPFnFormatx4
import Derived.IntWalk
import Derived.Test.YtmfdbcfpcifmcaaGreatDoorMc
import Derived.Test.YtmfdbcfpcifmcaaGreatDoorPFnFormatx0
import Derived.Deep.Slices
import Derived.Deep.Fields
import Derived.ChangeSame
import Derived.Lib.SmallJoins
namespace Go.Proofs.YtmfdbcfpcifmcaaGreatDoor
open Go.RowKit Go.Proofs.YtmfdbcfpcifmcaaGreatDoorW.PrintWords Go.Proofs.YtmfdbcfpcifmcaaGreatDoor.PFnFormat

theorem proper (kind net tcp : Int) (found : ByteArray) (hfs : found.size ≤ 2147483647) (comp prio : Int) (addr : ByteArray) (has : addr.size ≤ 2147483647) (port : Int) (A8 A9 : Option Addr) (m8 m9 : Nat) (rels : List S60) (exts : List S63) (w : World)
    (hn8 : rels.length ≤ 2147483647) (hn9 : exts.length ≤ 2147483647) (hc9 : exts.length ≤ m9) (hs8 : ∀ x ∈ rels, x.f0.size ≤ 2147483647) (hs9 : ∀ x ∈ exts, x.f0.size ≤ 2147483647 ∧ x.f1.size ≤ 2147483647)
    (h8 : Kd.C k60 w A8 rels.length rels) (h9 : Kd.C k63 w A9 exts.length exts) :
    Calls Tryz.prog 13 #[.agg #[.int .i64 kind, .int .i64 net, .int .i64 tcp, .string found, .int .i64 comp, .int .u32 prio, .string addr, .int .i64 port, .slice A8 rels.length m8, .slice A9 exts.length m9]] w fun e w' =>
      Says (IsProper kind net tcp found comp prio addr port rels exts) e ∧ Below w.heap.size w w' := by
  have B : ∀ b : Bool, b = false ∨ b = true := fun b => by cases b <;> simp
  rcases B (decide (kind < 1)) with q0 | q0
  case inr => exact proper_no1 kind net tcp found hfs comp prio addr has port A8 A9 m8 m9 rels exts w _ (.inl q0)
  rcases B (decide (kind > 4)) with q1 | q1
  case inr => exact proper_no1 kind net tcp found hfs comp prio addr has port A8 A9 m8 m9 rels exts w _ (.inr (.inl q1))
  rcases B (decide (net < 1)) with q2 | q2
  case inr => exact proper_no1 kind net tcp found hfs comp prio addr has port A8 A9 m8 m9 rels exts w _ (.inr (.inr (.inl q2)))
  rcases B (decide (net > 4)) with q3 | q3
  case inr => exact proper_no1 kind net tcp found hfs comp prio addr has port A8 A9 m8 m9 rels exts w _ (.inr (.inr (.inr q3)))
  rcases B (decide (comp < 1)) with q4 | q4
  case inr => exact proper_no2 kind net tcp found hfs comp prio addr has port A8 A9 m8 m9 rels exts w _ q0 q1 q2 q3 (.inl q4)
  rcases B (decide (comp > 256)) with q5 | q5
  case inr => exact proper_no2 kind net tcp found hfs comp prio addr has port A8 A9 m8 m9 rels exts w _ q0 q1 q2 q3 (.inr (.inl q5))
  rcases B (prio == 0) with q6 | q6
  case inr => exact proper_no2 kind net tcp found hfs comp prio addr has port A8 A9 m8 m9 rels exts w _ q0 q1 q2 q3 (.inr (.inr q6))
  rcases B (decide (port < 0)) with q7 | q7
  case inr => exact proper_no3 kind net tcp found hfs comp prio addr has port A8 A9 m8 m9 rels exts w _ q0 q1 q2 q3 q4 q5 q6 (.inl q7)
  rcases B (decide (port > 65535)) with q8 | q8
  case inr => exact proper_no3 kind net tcp found hfs comp prio addr has port A8 A9 m8 m9 rels exts w _ q0 q1 q2 q3 q4 q5 q6 (.inr (.inl q8))
  rcases B (decide ((rels.length : Int) > 1)) with q9 | q9
  case inr => exact proper_no3 kind net tcp found hfs comp prio addr has port A8 A9 m8 m9 rels exts w _ q0 q1 q2 q3 q4 q5 q6 (.inr (.inr (.inl q9)))
  rcases B (decide ((exts.length : Int) > 5)) with q10 | q10
  case inr => exact proper_no3 kind net tcp found hfs comp prio addr has port A8 A9 m8 m9 rels exts w _ q0 q1 q2 q3 q4 q5 q6 (.inr (.inr (.inr q10)))
  have no4 := proper_no4 kind net tcp found hfs comp prio addr has port A8 A9 m8 m9 rels exts w (IsProper kind net tcp found comp prio addr port rels exts) q0 q1 q2 q3 q4 q5 q6 q7 q8 q9 q10
  have no5 := proper_no5 kind net tcp found hfs comp prio addr has port A8 A9 m8 m9 rels exts w (IsProper kind net tcp found comp prio addr port rels exts) q0 q1 q2 q3 q4 q5 q6 q7 q8 q9 q10
  have no6 := proper_no6 kind net tcp found hfs comp prio addr has port A8 A9 m8 m9 rels exts w (IsProper kind net tcp found comp prio addr port rels exts) q0 q1 q2 q3 q4 q5 q6 q7 q8 q9 q10
  have no7 := proper_no7 kind net tcp found hfs comp prio addr has port A8 A9 m8 m9 rels exts w (IsProper kind net tcp found comp prio addr port rels exts) q0 q1 q2 q3 q4 q5 q6 q7 q8 q9 q10
  have yes := proper_yes kind net tcp found hfs comp prio addr has port A8 A9 m8 m9 rels exts w hn8 hn9 hc9 hs8 hs9 h8 h9 q0 q1 q2 q3 q4 q5 q6 q7 q8 q9 q10
  rcases B (kind == 1) with k1 | k1 <;> rcases B ((rels.length : Int) == 0) with k2 | k2
  case inl.inr => exact no4 (.inr ⟨k1, k2⟩)
  case inr.inl => exact no4 (.inl ⟨k1, k2⟩)
  all_goals
    rcases B (decide (tcp < 0)) with q13 | q13
    case inr => exact no5 (by first | exact .inl ⟨k1, k2⟩ | exact .inr ⟨k1, k2⟩) (.inl q13)
    rcases B (decide (tcp > 3)) with q14 | q14
    case inr => exact no5 (by first | exact .inl ⟨k1, k2⟩ | exact .inr ⟨k1, k2⟩) (.inr ⟨q13, q14⟩)
    rcases B (net == 3 || net == 4) with q12 | q12 <;> rcases B (decide (tcp > 0)) with q15 | q15
    case inl.inr => exact no6 (by first | exact .inl ⟨k1, k2⟩ | exact .inr ⟨k1, k2⟩) q13 q14 (.inr ⟨q12, q15⟩)
    case inr.inl => exact no6 (by first | exact .inl ⟨k1, k2⟩ | exact .inr ⟨k1, k2⟩) q13 q14 (.inl ⟨q12, q15⟩)
    all_goals first
      | exact no7 k1 k2 q13 q14 q12 q15
      | exact yes q13 q14 (.inl ⟨k1, k2, q12, q15⟩)
      | exact yes q13 q14 (.inr (.inl ⟨k1, k2, q12, q15⟩))
      | exact yes q13 q14 (.inr (.inr ⟨k1, k2, q12, q15⟩))
end Go.Proofs.YtmfdbcfpcifmcaaGreatDoor

namespace Go.Proofs.YtmfdbcfpcifmcaaGreatDoor
open Go.RowKit Go.Proofs.YtmfdbcfpcifmcaaGreatDoor.PFnFormat

theorem up_one {i n : Nat} (h : i < n) (hn : n ≤ 9223372036854775807) : wrap64 ((i : Int) + 1) = ((i + 1 : Nat) : Int) := by
  rw [IntWalk.wrap64_in _ (by omega)]
  omega

theorem drop_getD59 (l : List S59) (i : Nat) (h : i < l.length) : l.drop i = rd_T59 l i :: l.drop (i + 1) := by
  rw [List.drop_eq_getElem_cons h]
  simp [rd_T59, List.getD_eq_getElem?_getD, List.getElem?_eq_getElem h]
theorem drop_getD62 (l : List S62) (i : Nat) (h : i < l.length) : l.drop i = rd_T62 l i :: l.drop (i + 1) := by
  rw [List.drop_eq_getElem_cons h]
  simp [rd_T62, List.getD_eq_getElem?_getD, List.getElem?_eq_getElem h]

theorem fits3_some (a : ByteArray) (b : Int) : ∃ r, laws_zzFits3.f a b = some r ∧ (r = true → a.size ≤ 2147483647) := by
  unfold laws_zzFits3.f
  split
  · exact ⟨_, rfl, Bool.noConfusion⟩
  · exact ⟨_, rfl, fun _ => by omega⟩
theorem fits5_some (a b : ByteArray) : ∃ r, laws_zzFits5.f a b = some r ∧ (r = true → a.size ≤ 2147483647 ∧ b.size ≤ 2147483647) := by
  unfold laws_zzFits5.f
  split
  · exact ⟨_, rfl, Bool.noConfusion⟩
  split
  · exact ⟨_, rfl, Bool.noConfusion⟩
  · exact ⟨_, rfl, fun _ => by omega⟩

theorem fits2_l0 (l : List S59) (hl : l.length ≤ 2147483647) (q : Nat) : ∀ m i, i + m = l.length → ∃ r, laws_zzFits2.l0 (m + 1 + q) l l.length i = some r ∧ (r = true → ∀ x ∈ l.drop i, x.f0.size ≤ 2147483647)
  | 0, i, h => by
    have h1 : 0 + 1 + q = q + 1 := by omega
    rw [h1]
    unfold laws_zzFits2.l0
    rw [if_neg (by omega)]
    exact ⟨_, rfl, fun _ x hx => by rw [List.drop_of_length_le (by omega)] at hx; cases hx⟩
  | m + 1, i, h => by
    have h1 : m + 1 + 1 + q = (m + 1 + q) + 1 := by omega
    rw [h1]
    unfold laws_zzFits2.l0
    rw [if_pos (by omega), if_pos (by omega), if_pos (by omega), up_one (n := l.length) (by omega) (by omega)]
    obtain ⟨r, hr, hrs⟩ := fits3_some (rd_T59 l i).f0 (rd_T59 l i).f1
    obtain ⟨r', hr', hrs'⟩ := fits2_l0 l hl q m (i + 1) (by omega)
    rw [hr]
    simp only [Option.bind_some]
    split
    · rename_i hrt
      refine ⟨r', hr', fun h x hx => ?_⟩
      rw [drop_getD59 l i (by omega)] at hx
      rcases List.mem_cons.1 hx with rfl | hx
      · exact hrs hrt
      · exact hrs' h x hx
    · exact ⟨_, rfl, Bool.noConfusion⟩
theorem fits4_l0 (l : List S62) (hl : l.length ≤ 2147483647) (q : Nat) : ∀ m i, i + m = l.length → ∃ r, laws_zzFits4.l0 (m + 1 + q) l l.length i = some r ∧ (r = true → ∀ x ∈ l.drop i, x.f0.size ≤ 2147483647 ∧ x.f1.size ≤ 2147483647)
  | 0, i, h => by
    have h1 : 0 + 1 + q = q + 1 := by omega
    rw [h1]
    unfold laws_zzFits4.l0
    rw [if_neg (by omega)]
    exact ⟨_, rfl, fun _ x hx => by rw [List.drop_of_length_le (by omega)] at hx; cases hx⟩
  | m + 1, i, h => by
    have h1 : m + 1 + 1 + q = (m + 1 + q) + 1 := by omega
    rw [h1]
    unfold laws_zzFits4.l0
    rw [if_pos (by omega), if_pos (by omega), if_pos (by omega), up_one (n := l.length) (by omega) (by omega)]
    obtain ⟨r, hr, hrs⟩ := fits5_some (rd_T62 l i).f0 (rd_T62 l i).f1
    obtain ⟨r', hr', hrs'⟩ := fits4_l0 l hl q m (i + 1) (by omega)
    rw [hr]
    simp only [Option.bind_some]
    split
    · rename_i hrt
      refine ⟨r', hr', fun h x hx => ?_⟩
      rw [drop_getD62 l i (by omega)] at hx
      rcases List.mem_cons.1 hx with rfl | hx
      · exact hrs hrt
      · exact hrs' h x hx
    · exact ⟨_, rfl, Bool.noConfusion⟩

theorem fits_some (a0 a1 a2 : Int) (a3 : ByteArray) (a4 a5 : Int) (a6 : ByteArray) (a7 : Int) (l8 : List S59) (l9 : List S62) :
    ∃ k r, laws_zzFits1.f k a0 a1 a2 a3 a4 a5 a6 a7 l8 l9 = some r ∧ (r = true → l8.length ≤ 2147483647 ∧ l9.length ≤ 2147483647 ∧ a3.size ≤ 2147483647 ∧ a6.size ≤ 2147483647 ∧ (∀ x ∈ l8, x.f0.size ≤ 2147483647) ∧ (∀ x ∈ l9, x.f0.size ≤ 2147483647 ∧ x.f1.size ≤ 2147483647)) := by
  refine ⟨l8.length + 1 + (l9.length + 1), ?_⟩
  unfold laws_zzFits1.f
  split
  · exact ⟨_, rfl, fun h => by cases h⟩
  split
  · exact ⟨_, rfl, fun h => by cases h⟩
  unfold laws_zzFits2.f
  split
  · exact ⟨_, rfl, fun h => by simp at h⟩
  · rename_i h8
    obtain ⟨r, hr, hrs⟩ := fits2_l0 l8 (by omega) (l9.length + 1) l8.length 0 (by omega)
    simp only [Int.ofNat_zero] at hr
    rw [hr]
    simp only [Option.bind_some]
    split
    · rename_i hrt
      unfold laws_zzFits4.f
      split
      · exact ⟨_, rfl, fun h => by simp at h⟩
      · rename_i h9
        obtain ⟨r', hr', hrs'⟩ := fits4_l0 l9 (by omega) (l8.length + 1) l9.length 0 (by omega)
        have h1 : l8.length + 1 + (l9.length + 1) = l9.length + 1 + (l8.length + 1) := by omega
        simp only [Int.ofNat_zero] at hr'
        rw [h1, hr']
        simp only [Option.bind_some]
        split
        · rename_i hrt'
          exact ⟨_, rfl, fun _ => ⟨by omega, by omega, by omega, by omega, hrs hrt, hrs' hrt'⟩⟩
        · exact ⟨_, rfl, fun h => by cases h⟩
    · exact ⟨_, rfl, fun h => by cases h⟩

def rel60 (x : S59) : S60 := ⟨x.f0, x.f1⟩
def ext63 (x : S62) : S63 := ⟨x.f0, x.f1⟩
theorem cand_l1 (l : List S62) (hl : l.length ≤ 2147483647) (q : Nat) (y0 y1 y2 : Int) (y3 : ByteArray) (y4 y5 : Int) (y6 : ByteArray) (y7 : Int) (y8 : List S60) : ∀ m i acc, i + m = l.length → acc.length = i →
    laws_candidate.l1 (m + 1 + q) l l.length i y0 y1 y2 y3 y4 y5 y6 y7 y8 acc = some (y0, y1, y2, y3, y4, y5, y6, y7, y8, acc ++ (l.drop i).map ext63)
  | 0, i, acc, h, _ => by
    have h1 : 0 + 1 + q = q + 1 := by omega
    rw [h1]
    unfold laws_candidate.l1
    rw [if_neg (by omega), List.drop_of_length_le (by omega)]
    simp
  | m + 1, i, acc, h, ha => by
    have h1 : m + 1 + 1 + q = (m + 1 + q) + 1 := by omega
    rw [h1]
    unfold laws_candidate.l1
    rw [if_pos (by omega), if_pos (by omega), if_pos (by omega), if_pos (by omega), up_one (n := l.length) (by omega) (by omega),
      cand_l1 l hl q y0 y1 y2 y3 y4 y5 y6 y7 y8 m (i + 1) _ (by omega) (by simp [ha]), drop_getD62 l i (by omega)]
    simp [ext63]

theorem cand_l0 (l8 : List S59) (l9 : List S62) (h8 : l8.length ≤ 2147483647) (h9 : l9.length ≤ 2147483647) (x0 x1 x2 : Int) (x3 : ByteArray) (x4 x5 : Int) (x6 : ByteArray) (x7 : Int) (x8 : List S59) (y0 y1 y2 : Int) (y3 : ByteArray) (y4 y5 : Int) (y6 : ByteArray) (y7 : Int) :
    ∀ m i acc, i + m = l8.length → acc.length = i →
    laws_candidate.l0 (m + 1 + (l9.length + 1)) l8 l8.length i x0 x1 x2 x3 x4 x5 x6 x7 x8 l9 y0 y1 y2 y3 y4 y5 y6 y7 acc = some (y0, y1, y2, y3, y4, y5, y6, y7, acc ++ (l8.drop i).map rel60, l9.map ext63)
  | 0, i, acc, h, _ => by
    have h1 : 0 + 1 + (l9.length + 1) = (l9.length + 1) + 1 := by omega
    rw [h1]
    unfold laws_candidate.l0
    rw [if_neg (by omega), List.drop_of_length_le (by omega)]
    have h2 := cand_l1 l9 h9 0 y0 y1 y2 y3 y4 y5 y6 y7 acc l9.length 0 [] (by omega) rfl
    simpa using h2
  | m + 1, i, acc, h, ha => by
    have h1 : m + 1 + 1 + (l9.length + 1) = (m + 1 + (l9.length + 1)) + 1 := by omega
    rw [h1]
    unfold laws_candidate.l0
    rw [if_pos (by omega), if_pos (by omega), if_pos (by omega), if_pos (by omega), up_one (n := l8.length) (by omega) (by omega),
      cand_l0 l8 l9 h8 h9 x0 x1 x2 x3 x4 x5 x6 x7 x8 y0 y1 y2 y3 y4 y5 y6 y7 m (i + 1) _ (by omega) (by simp [ha]), drop_getD59 l8 i (by omega)]
    simp [rel60]

theorem cand_some (a0 a1 a2 : Int) (a3 : ByteArray) (a4 a5 : Int) (a6 : ByteArray) (a7 : Int) (l8 : List S59) (l9 : List S62) (h8 : l8.length ≤ 2147483647) (h9 : l9.length ≤ 2147483647) :
    laws_candidate.f (l8.length + 1 + (l9.length + 1)) a0 a1 a2 a3 a4 a5 a6 a7 l8 l9 = some (a0, a1, a2, a3, a4, a5, a6, a7, l8.map rel60, l9.map ext63) := by
  unfold laws_candidate.f
  have h := cand_l0 l8 l9 h8 h9 a0 a1 a2 a3 a4 a5 a6 a7 l8 a0 a1 a2 a3 a4 a5 a6 a7 l8.length 0 [] (by omega) rfl
  simpa using h
end Go.Proofs.YtmfdbcfpcifmcaaGreatDoor

namespace Go.Proofs.YtmfdbcfpcifmcaaGreatDoor
open Go.Joins Go.ChangeShapes Go.WideShapes Go.ChangeAt Go.RowKit Go.Deep
open Go.Proofs.YtmfdbcfpcifmcaaGreatDoorW.PrintWords
open Go.Proofs.YtmfdbcfpcifmcaaGreatDoor.PFnFormat

section
variable {H : Type} {enc : TypeId × Value → H} {P : Program} {w : World} {base : Nat} {spare : Nat → Bool} {held : Bool}
theorem open_slice_fields {t e : TypeId} {fs : Array Field} {fuel : Nat} {cs : List Value} {x : DataW H × List MemPlace} (ht : P.underlying t = some (.slice e)) (he : P.underlying e = some (.struct fs))
    (hone : oneCellFields P fs = true) (hC : P.cellsOf e = fs.size) (h : DataW.trod enc P w base spare held fuel t cs = some x) :
    (cs = [.slice none 0 0] ∧ x = (.nil, [])) ∨
    ∃ (a : Addr) (len cap m : Nat) (D : Nat → DataW H) (Pl : Nat → List MemPlace), cs = [.slice (some a) len cap] ∧ base ≤ a.block ∧ len ≤ cap ∧ cap ≤ maxLen ∧ m = (if spare a.block then cap else len) ∧
      x = (.slice ((List.range len).map D) ((List.range (m - len)).map fun j => D (len + j)), MemPlace.row a (m * fs.size) ++ (List.range m).flatMap Pl) ∧
      ∀ i, i < m → ∃ (ys : List (DataW H × List MemPlace)) (n : Nat), D i = .agg (ys.map (·.1)) ∧ Pl i = ys.flatMap (·.2) ∧ ys.length = fs.size ∧
        ∀ (j : Nat) (f : Field), fs[j]? = some f → ∃ (v : Value) (y : DataW H × List MemPlace), w.cell? (a.add (i * fs.size + j)) = some v ∧ ys[j]? = some y ∧ DataW.trod enc P w base spare held n f.type [v] = some y := by
  rcases open_slice ht h with h0 | ⟨a, len, cap, m, n, D, Pl, hcs, hb, hl, hm, hmm, hx, hi⟩
  · exact .inl h0
  · refine .inr ⟨a, len, cap, m, D, Pl, hcs, hb, hl, hm, hmm, by rw [hC] at hx; exact hx, fun i him => ?_⟩
    obtain ⟨cs', hc, ht'⟩ := hi i him
    rw [hC] at hc
    obtain ⟨ys, n', hn', hy, hlen, hyl, hf⟩ := DataW.trod_struct he ht'
    obtain ⟨_, hcl, hat⟩ := World.cells?_some hc
    simp only [Prod.mk.injEq] at hy
    refine ⟨ys, n', hy.1, hy.2, hyl, fun j f hj => ?_⟩
    obtain ⟨ho, hk⟩ := hone_of hone j f hj
    have hjl : j < fs.size := (Array.getElem?_eq_some_iff.1 hj).1
    have hcell := hat j hjl
    have hv : cs'[j]? = some (cs'[j]'(by omega)) := List.getElem?_eq_getElem (by omega)
    have h1 := hf j f hj
    rw [ho, hk] at h1
    have hone' : (cs'.drop j).take 1 = [cs'[j]'(by omega)] := by
      rw [List.drop_eq_getElem_cons (by omega)]
      rfl
    rw [hone'] at h1
    have hys : ys[j]? = some (ys[j]'(by omega)) := List.getElem?_eq_getElem (by omega)
    refine ⟨_, _, ?_, hys, h1.trans hys⟩
    rw [← Go.Deep.add_add, hcell, hv]
end

theorem list_of {α : Type} (Q : Nat → α → Prop) : ∀ n, (∀ i, i < n → ∃ x, Q i x) → ∃ l : List α, l.length = n ∧ ∀ j p, l[j]? = some p → Q j p
  | 0, _ => ⟨[], rfl, fun j p h => by simp at h⟩
  | n + 1, h => by
    obtain ⟨l, hl, hq⟩ := list_of Q n (fun i hi => h i (by omega))
    obtain ⟨x, hx⟩ := h n (by omega)
    refine ⟨l ++ [x], by simp [hl], fun j p hj => ?_⟩
    rcases Nat.lt_or_ge j l.length with hlt | hge
    · rw [List.getElem?_append_left hlt] at hj
      exact hq j p hj
    · rw [List.getElem?_append_right hge] at hj
      have hj0 : j - l.length = 0 := by
        rcases Nat.eq_zero_or_pos (j - l.length) with h0 | h0
        · exact h0
        · rw [List.getElem?_eq_none (by simp; omega)] at hj
          cases hj
      rw [hj0] at hj
      have : j = n := by omega
      subst this
      have : x = p := by simpa using hj
      rw [← this]
      exact hx

section
variable {H : Type} {enc : TypeId × Value → H} {w : World}
theorem open_rels {n : Nat} {v : Value} {x : DataW H × List MemPlace} (h : DataW.trod enc Tryz.prog w 0 (fun _ => true) true n 23 [v] = some x) :
    ∃ (A : Option Addr) (c : Nat) (l : List S59), v = .slice A l.length c ∧ l.length ≤ c ∧ Kd.C k59 w A l.length l := by
  rcases open_slice_fields Tryz.underlying23 Tryz.underlying59 (by kernel_rfl) (by kernel_rfl) h with ⟨hv, _⟩ | ⟨a, len, cap, m, D, Pl, hv, _, hlc, hcm, hm, _, hf⟩
  · obtain rfl : v = .slice none 0 0 := by simpa using hv
    exact ⟨none, 0, [], rfl, Nat.le_refl _, rfl, by simp, fun h0 => absurd h0 (Nat.lt_irrefl 0)⟩
  · obtain rfl : v = .slice (some a) len cap := by simpa using hv
    obtain ⟨l, hl, hq⟩ := list_of (fun i (p : S59) => w.cell? (a.add (i * 2)) = some (.string p.f0) ∧ w.cell? (a.add (i * 2 + 1)) = some (.int .i64 p.f1)) len (fun i hi => by
      obtain ⟨ys, n', _, _, _, hfs⟩ := hf i (by simp at hm; omega)
      obtain ⟨v0, y0, hc0, _, ht0⟩ := hfs 0 _ rfl
      obtain ⟨v1, y1, hc1, _, ht1⟩ := hfs 1 _ rfl
      obtain ⟨s, hs, _⟩ := DataW.trod_string Tryz.underlying9 ht0
      obtain ⟨q, hq, _⟩ := DataW.trod_int Tryz.underlying3 ht1
      obtain rfl : v0 = .string s := by simpa using hs
      obtain rfl : v1 = .int .i64 q := by simpa using hq
      exact ⟨⟨s, q⟩, hc0, hc1⟩)
    refine ⟨some a, cap, l, by rw [hl], by omega, rfl, by rw [hl]; unfold maxLen at hcm; omega, fun _ => ⟨a, rfl, fun j p hj => ?_⟩⟩
    obtain ⟨h0, h1⟩ := hq j p hj
    refine ⟨_, rfl, k59_mk w p, fun i u hi => ?_⟩
    match i, hi with
    | 0, hi =>
      obtain rfl : _ = u := by simpa using hi
      exact h0
    | 1, hi =>
      obtain rfl : _ = u := by simpa using hi
      exact h1

theorem open_exts {n : Nat} {v : Value} {x : DataW H × List MemPlace} (h : DataW.trod enc Tryz.prog w 0 (fun _ => true) true n 24 [v] = some x) :
    ∃ (A : Option Addr) (c : Nat) (l : List S62), v = .slice A l.length c ∧ l.length ≤ c ∧ Kd.C k62 w A l.length l := by
  rcases open_slice_fields Tryz.underlying24 Tryz.underlying62 (by kernel_rfl) (by kernel_rfl) h with ⟨hv, _⟩ | ⟨a, len, cap, m, D, Pl, hv, _, hlc, hcm, hm, _, hf⟩
  · obtain rfl : v = .slice none 0 0 := by simpa using hv
    exact ⟨none, 0, [], rfl, Nat.le_refl _, rfl, by simp, fun h0 => absurd h0 (Nat.lt_irrefl 0)⟩
  · obtain rfl : v = .slice (some a) len cap := by simpa using hv
    obtain ⟨l, hl, hq⟩ := list_of (fun i (p : S62) => w.cell? (a.add (i * 2)) = some (.string p.f0) ∧ w.cell? (a.add (i * 2 + 1)) = some (.string p.f1)) len (fun i hi => by
      obtain ⟨ys, n', _, _, _, hfs⟩ := hf i (by simp at hm; omega)
      obtain ⟨v0, y0, hc0, _, ht0⟩ := hfs 0 _ rfl
      obtain ⟨v1, y1, hc1, _, ht1⟩ := hfs 1 _ rfl
      obtain ⟨s, hs, _⟩ := DataW.trod_string Tryz.underlying9 ht0
      obtain ⟨q, hq, _⟩ := DataW.trod_string Tryz.underlying9 ht1
      obtain rfl : v0 = .string s := by simpa using hs
      obtain rfl : v1 = .string q := by simpa using hq
      exact ⟨⟨s, q⟩, hc0, hc1⟩)
    refine ⟨some a, cap, l, by rw [hl], by omega, rfl, by rw [hl]; unfold maxLen at hcm; omega, fun _ => ⟨a, rfl, fun j p hj => ?_⟩⟩
    obtain ⟨h0, h1⟩ := hq j p hj
    refine ⟨_, rfl, k62_mk w p, fun i u hi => ?_⟩
    match i, hi with
    | 0, hi =>
      obtain rfl : _ = u := by simpa using hi
      exact h0
    | 1, hi =>
      obtain rfl : _ = u := by simpa using hi
      exact h1

set_option maxRecDepth 100000 in
/-- The candidate that came in. -/
theorem open_cand {r : Reach} {b0 : Nat} {v : Value} {d : DataW H} {p : List MemPlace} (hv : Value.okWide Tryz.prog w r b0 26 v) (h : DataW.Trod enc Tryz.prog w 0 (fun _ => true) true 26 v d p) :
    ∃ (kind net tcp : Int) (found : ByteArray) (comp prio : Int) (addr : ByteArray) (port : Int) (A8 A9 : Option Addr) (c8 c9 : Nat) (l8 : List S59) (l9 : List S62),
      v = .agg #[.int .i64 kind, .int .i64 net, .int .i64 tcp, .string found, .int .i64 comp, .int .u32 prio, .string addr, .int .i64 port, .slice A8 l8.length c8, .slice A9 l9.length c9] ∧
      l8.length ≤ c8 ∧ l9.length ≤ c9 ∧ Kd.C k59 w A8 l8.length l8 ∧ Kd.C k62 w A9 l9.length l9 ∧
      (Lit.int .i64 kind).wf = true ∧ (Lit.int .i64 net).wf = true ∧ (Lit.int .i64 tcp).wf = true ∧ (Lit.int .i64 comp).wf = true ∧ (Lit.int .u32 prio).wf = true ∧ (Lit.int .i64 port).wf = true := by
  obtain ⟨cs, rfl, hsz⟩ := okWide_struct Tryz.underlying26 hv
  obtain ⟨l⟩ := cs
  have hC : Tryz.prog.cellsOf 26 = 10 := by kernel_rfl
  obtain ⟨fuel, hf⟩ := h
  obtain ⟨xs, n, _, _, _, hlen, hg⟩ := DataW.trod_struct Tryz.underlying26 hf
  have k3 : Tryz.prog.cellsOf 3 = 1 := by kernel_rfl
  have k9 : Tryz.prog.cellsOf 9 = 1 := by kernel_rfl
  have k22 : Tryz.prog.cellsOf 22 = 1 := by kernel_rfl
  have k23 : Tryz.prog.cellsOf 23 = 1 := by kernel_rfl
  have k24 : Tryz.prog.cellsOf 24 = 1 := by kernel_rfl
  have hl : l.length = 10 := hsz.trans hC
  match l, hl with
  | [c0, c1, c2, c3, c4, c5, c6, c7, c8, c9], _ =>
    have g0 : ∃ y, DataW.trod enc Tryz.prog w 0 (fun _ => true) true n 3 [c0] = some y := by
      have h := hg 0 _ rfl
      obtain ⟨y, hy⟩ : ∃ y, xs[0]? = some y := ⟨_, List.getElem?_eq_getElem (by rw [hlen]; decide)⟩
      change DataW.trod enc Tryz.prog w 0 (fun _ => true) true n 3 ([c0, c1, c2, c3, c4, c5, c6, c7, c8, c9].take (Tryz.prog.cellsOf 3)) = _ at h
      rw [k3] at h
      exact ⟨y, h.trans hy⟩
    have g1 : ∃ y, DataW.trod enc Tryz.prog w 0 (fun _ => true) true n 3 [c1] = some y := by
      have h := hg 1 _ rfl
      obtain ⟨y, hy⟩ : ∃ y, xs[1]? = some y := ⟨_, List.getElem?_eq_getElem (by rw [hlen]; decide)⟩
      change DataW.trod enc Tryz.prog w 0 (fun _ => true) true n 3 ([c1, c2, c3, c4, c5, c6, c7, c8, c9].take (Tryz.prog.cellsOf 3)) = _ at h
      rw [k3] at h
      exact ⟨y, h.trans hy⟩
    have g2 : ∃ y, DataW.trod enc Tryz.prog w 0 (fun _ => true) true n 3 [c2] = some y := by
      have h := hg 2 _ rfl
      obtain ⟨y, hy⟩ : ∃ y, xs[2]? = some y := ⟨_, List.getElem?_eq_getElem (by rw [hlen]; decide)⟩
      change DataW.trod enc Tryz.prog w 0 (fun _ => true) true n 3 ([c2, c3, c4, c5, c6, c7, c8, c9].take (Tryz.prog.cellsOf 3)) = _ at h
      rw [k3] at h
      exact ⟨y, h.trans hy⟩
    have g3 : ∃ y, DataW.trod enc Tryz.prog w 0 (fun _ => true) true n 9 [c3] = some y := by
      have h := hg 3 _ rfl
      obtain ⟨y, hy⟩ : ∃ y, xs[3]? = some y := ⟨_, List.getElem?_eq_getElem (by rw [hlen]; decide)⟩
      change DataW.trod enc Tryz.prog w 0 (fun _ => true) true n 9 ([c3, c4, c5, c6, c7, c8, c9].take (Tryz.prog.cellsOf 9)) = _ at h
      rw [k9] at h
      exact ⟨y, h.trans hy⟩
    have g4 : ∃ y, DataW.trod enc Tryz.prog w 0 (fun _ => true) true n 3 [c4] = some y := by
      have h := hg 4 _ rfl
      obtain ⟨y, hy⟩ : ∃ y, xs[4]? = some y := ⟨_, List.getElem?_eq_getElem (by rw [hlen]; decide)⟩
      change DataW.trod enc Tryz.prog w 0 (fun _ => true) true n 3 ([c4, c5, c6, c7, c8, c9].take (Tryz.prog.cellsOf 3)) = _ at h
      rw [k3] at h
      exact ⟨y, h.trans hy⟩
    have g5 : ∃ y, DataW.trod enc Tryz.prog w 0 (fun _ => true) true n 22 [c5] = some y := by
      have h := hg 5 _ rfl
      obtain ⟨y, hy⟩ : ∃ y, xs[5]? = some y := ⟨_, List.getElem?_eq_getElem (by rw [hlen]; decide)⟩
      change DataW.trod enc Tryz.prog w 0 (fun _ => true) true n 22 ([c5, c6, c7, c8, c9].take (Tryz.prog.cellsOf 22)) = _ at h
      rw [k22] at h
      exact ⟨y, h.trans hy⟩
    have g6 : ∃ y, DataW.trod enc Tryz.prog w 0 (fun _ => true) true n 9 [c6] = some y := by
      have h := hg 6 _ rfl
      obtain ⟨y, hy⟩ : ∃ y, xs[6]? = some y := ⟨_, List.getElem?_eq_getElem (by rw [hlen]; decide)⟩
      change DataW.trod enc Tryz.prog w 0 (fun _ => true) true n 9 ([c6, c7, c8, c9].take (Tryz.prog.cellsOf 9)) = _ at h
      rw [k9] at h
      exact ⟨y, h.trans hy⟩
    have g7 : ∃ y, DataW.trod enc Tryz.prog w 0 (fun _ => true) true n 3 [c7] = some y := by
      have h := hg 7 _ rfl
      obtain ⟨y, hy⟩ : ∃ y, xs[7]? = some y := ⟨_, List.getElem?_eq_getElem (by rw [hlen]; decide)⟩
      change DataW.trod enc Tryz.prog w 0 (fun _ => true) true n 3 ([c7, c8, c9].take (Tryz.prog.cellsOf 3)) = _ at h
      rw [k3] at h
      exact ⟨y, h.trans hy⟩
    have g8 : ∃ y, DataW.trod enc Tryz.prog w 0 (fun _ => true) true n 23 [c8] = some y := by
      have h := hg 8 _ rfl
      obtain ⟨y, hy⟩ : ∃ y, xs[8]? = some y := ⟨_, List.getElem?_eq_getElem (by rw [hlen]; decide)⟩
      change DataW.trod enc Tryz.prog w 0 (fun _ => true) true n 23 ([c8, c9].take (Tryz.prog.cellsOf 23)) = _ at h
      rw [k23] at h
      exact ⟨y, h.trans hy⟩
    have g9 : ∃ y, DataW.trod enc Tryz.prog w 0 (fun _ => true) true n 24 [c9] = some y := by
      have h := hg 9 _ rfl
      obtain ⟨y, hy⟩ : ∃ y, xs[9]? = some y := ⟨_, List.getElem?_eq_getElem (by rw [hlen]; decide)⟩
      change DataW.trod enc Tryz.prog w 0 (fun _ => true) true n 24 ([c9].take (Tryz.prog.cellsOf 24)) = _ at h
      rw [k24] at h
      exact ⟨y, h.trans hy⟩
    obtain ⟨y0, e0⟩ := g0
    obtain ⟨y1, e1⟩ := g1
    obtain ⟨y2, e2⟩ := g2
    obtain ⟨y3, e3⟩ := g3
    obtain ⟨y4, e4⟩ := g4
    obtain ⟨y5, e5⟩ := g5
    obtain ⟨y6, e6⟩ := g6
    obtain ⟨y7, e7⟩ := g7
    obtain ⟨y8, e8⟩ := g8
    obtain ⟨y9, e9⟩ := g9
    obtain ⟨s0, hs0, _, w0⟩ := DataW.trod_int Tryz.underlying3 e0
    obtain rfl : c0 = .int .i64 s0 := by simpa using hs0
    obtain ⟨s1, hs1, _, w1⟩ := DataW.trod_int Tryz.underlying3 e1
    obtain rfl : c1 = .int .i64 s1 := by simpa using hs1
    obtain ⟨s2, hs2, _, w2⟩ := DataW.trod_int Tryz.underlying3 e2
    obtain rfl : c2 = .int .i64 s2 := by simpa using hs2
    obtain ⟨s3, hs3, _⟩ := DataW.trod_string Tryz.underlying9 e3
    obtain rfl : c3 = .string s3 := by simpa using hs3
    obtain ⟨s4, hs4, _, w4⟩ := DataW.trod_int Tryz.underlying3 e4
    obtain rfl : c4 = .int .i64 s4 := by simpa using hs4
    obtain ⟨s5, hs5, _, w5⟩ := DataW.trod_int Tryz.underlying22 e5
    obtain rfl : c5 = .int .u32 s5 := by simpa using hs5
    obtain ⟨s6, hs6, _⟩ := DataW.trod_string Tryz.underlying9 e6
    obtain rfl : c6 = .string s6 := by simpa using hs6
    obtain ⟨s7, hs7, _, w7⟩ := DataW.trod_int Tryz.underlying3 e7
    obtain rfl : c7 = .int .i64 s7 := by simpa using hs7
    obtain ⟨A8, m8, l8, rfl, hl8, hC8⟩ := open_rels e8
    obtain ⟨A9, m9, l9, rfl, hl9, hC9⟩ := open_exts e9
    exact ⟨s0, s1, s2, s3, s4, s5, s6, s7, A8, A9, m8, m9, l8, l9, rfl, hl8, hl9, hC8, hC9, w0, w1, w2, w4, w5, w7⟩
end
end Go.Proofs.YtmfdbcfpcifmcaaGreatDoor
