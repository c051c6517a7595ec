/- net/netip.ParseAddr at every text of an address that the statements speak of; strings.HasSuffix at the same. (Written by mkaddr.py.) -/
import Derived.Test.YtmfdbcfpcifmcaaGreatDoorTexts
import Derived.Test.YtmfdbcfpcifmcaaGreatDoorSixA
import Derived.Test.YtmfdbcfpcifmcaaGreatDoorSixB
import Derived.Test.YtmfdbcfpcifmcaaGreatDoorSixC
import Derived.Lib.IndexBytes
namespace Go.Proofs.YtmfdbcfpcifmcaaGreatDoor
open Go.RowKit
attribute [local go_sem] byte_mk

/-- A text of an address: four numbers, or one of five texts of IPv6. -/
def addrText (six : Bool) (s : ByteArray) : Prop :=
  match six with
  | false => Ip.Ok s.data.toList
  | true => s = ⟨#[50, 48, 48, 49, 58, 100, 98, 56, 58, 58, 49]⟩ ∨ s = ⟨#[102, 100, 48, 48, 58, 58, 50]⟩ ∨ s = ⟨#[58, 58, 49]⟩ ∨ s = ⟨#[102, 101, 56, 48, 58, 58, 49, 50, 51, 52]⟩ ∨ s = ⟨#[50, 48, 48, 49, 58, 100, 98, 56, 58, 48, 58, 49, 58, 50, 58, 51, 58, 52, 58, 53]⟩

def IsAddr (six : Bool) (p4 p6 : Addr) (e : Ending) : Prop := ∃ (hi lo : Int) (p : Addr), e = .returned (.tuple #[addrV hi lo p, .nilIface]) ∧ Own six p4 p6 hi lo p

set_option maxRecDepth 100000 in
set_option maxHeartbeats 1000000 in
theorem parseAddr6_0 (w : World) (p4 p6 : Addr) (hG : Glob w p4 p6) : Calls Tryz.prog 76 #[.string ⟨#[50, 48, 48, 49, 58, 100, 98, 56, 58, 58, 49]⟩] w fun e w' => IsAddr6 p6 e ∧ Below w.heap.size w w' := by
  have hb := below_al (Below.refl w.heap.size w) (Nat.le_refl _) (.cells #[.int .u64 0, .int .u64 0, .pointer none] 154)
  go_enter Tryz.func76, Tryz.ntmps76
  go_wp2_with fail
  refine wp_loop_rounds 5 ?_
  rw [rounds_succ]
  go_wp2_with fail
  rw [rounds_succ]
  go_wp2_with fail
  rw [rounds_succ]
  go_wp2_with fail
  rw [rounds_succ]
  go_wp2_with fail
  rw [rounds_succ]
  go_wp2_with fail
  refine (six0 _ p4 p6 (hG.below hb)).mono ?_
  rintro e w1 ⟨⟨hi, lo, rfl, ho⟩, hb1⟩
  have hr : Row w1 w.heap.size 154 #[.int .u64 0, .int .u64 0, .pointer none] := (Row.new w 154 _).below hb1 (by simp)
  have q0 := hr.cell 0
  have q1 := hr.cell 1
  have q2 := hr.cell 2
  have f0 := hr.free 0
  have f1 := hr.free 1
  have f2 := hr.free 2
  clear hr
  have HO := Lib.hid ho
  clear ho
  simp only [addrV]
  go_wp2_with fail
  refine bodyPost_ret (v := .tuple #[addrV hi lo p6, .nilIface]) ?h1 rfl ⟨⟨hi, lo, rfl, HO.out⟩, ?h2⟩
  case h1 => simp [results, Tryz.results76, go_sem, q0, q1, q2, addrV]
  case h2 => exact below_st (below_st (below_st (below_next hb hb1 (by simp)) (Nat.le_refl _) _ _) (Nat.le_refl _) _ _) (Nat.le_refl _) _ _

set_option maxRecDepth 100000 in
set_option maxHeartbeats 1000000 in
theorem parseAddr6_1 (w : World) (p4 p6 : Addr) (hG : Glob w p4 p6) : Calls Tryz.prog 76 #[.string ⟨#[102, 100, 48, 48, 58, 58, 50]⟩] w fun e w' => IsAddr6 p6 e ∧ Below w.heap.size w w' := by
  have hb := below_al (Below.refl w.heap.size w) (Nat.le_refl _) (.cells #[.int .u64 0, .int .u64 0, .pointer none] 154)
  go_enter Tryz.func76, Tryz.ntmps76
  go_wp2_with fail
  refine wp_loop_rounds 5 ?_
  rw [rounds_succ]
  go_wp2_with fail
  rw [rounds_succ]
  go_wp2_with fail
  rw [rounds_succ]
  go_wp2_with fail
  rw [rounds_succ]
  go_wp2_with fail
  rw [rounds_succ]
  go_wp2_with fail
  refine (six1 _ p4 p6 (hG.below hb)).mono ?_
  rintro e w1 ⟨⟨hi, lo, rfl, ho⟩, hb1⟩
  have hr : Row w1 w.heap.size 154 #[.int .u64 0, .int .u64 0, .pointer none] := (Row.new w 154 _).below hb1 (by simp)
  have q0 := hr.cell 0
  have q1 := hr.cell 1
  have q2 := hr.cell 2
  have f0 := hr.free 0
  have f1 := hr.free 1
  have f2 := hr.free 2
  clear hr
  have HO := Lib.hid ho
  clear ho
  simp only [addrV]
  go_wp2_with fail
  refine bodyPost_ret (v := .tuple #[addrV hi lo p6, .nilIface]) ?h1 rfl ⟨⟨hi, lo, rfl, HO.out⟩, ?h2⟩
  case h1 => simp [results, Tryz.results76, go_sem, q0, q1, q2, addrV]
  case h2 => exact below_st (below_st (below_st (below_next hb hb1 (by simp)) (Nat.le_refl _) _ _) (Nat.le_refl _) _ _) (Nat.le_refl _) _ _

set_option maxRecDepth 100000 in
set_option maxHeartbeats 1000000 in
theorem parseAddr6_2 (w : World) (p4 p6 : Addr) (hG : Glob w p4 p6) : Calls Tryz.prog 76 #[.string ⟨#[58, 58, 49]⟩] w fun e w' => IsAddr6 p6 e ∧ Below w.heap.size w w' := by
  have hb := below_al (Below.refl w.heap.size w) (Nat.le_refl _) (.cells #[.int .u64 0, .int .u64 0, .pointer none] 154)
  go_enter Tryz.func76, Tryz.ntmps76
  go_wp2_with fail
  refine wp_loop_rounds 1 ?_
  rw [rounds_succ]
  go_wp2_with fail
  refine (six2 _ p4 p6 (hG.below hb)).mono ?_
  rintro e w1 ⟨⟨hi, lo, rfl, ho⟩, hb1⟩
  have hr : Row w1 w.heap.size 154 #[.int .u64 0, .int .u64 0, .pointer none] := (Row.new w 154 _).below hb1 (by simp)
  have q0 := hr.cell 0
  have q1 := hr.cell 1
  have q2 := hr.cell 2
  have f0 := hr.free 0
  have f1 := hr.free 1
  have f2 := hr.free 2
  clear hr
  have HO := Lib.hid ho
  clear ho
  simp only [addrV]
  go_wp2_with fail
  refine bodyPost_ret (v := .tuple #[addrV hi lo p6, .nilIface]) ?h1 rfl ⟨⟨hi, lo, rfl, HO.out⟩, ?h2⟩
  case h1 => simp [results, Tryz.results76, go_sem, q0, q1, q2, addrV]
  case h2 => exact below_st (below_st (below_st (below_next hb hb1 (by simp)) (Nat.le_refl _) _ _) (Nat.le_refl _) _ _) (Nat.le_refl _) _ _

set_option maxRecDepth 100000 in
set_option maxHeartbeats 1000000 in
theorem parseAddr6_3 (w : World) (p4 p6 : Addr) (hG : Glob w p4 p6) : Calls Tryz.prog 76 #[.string ⟨#[102, 101, 56, 48, 58, 58, 49, 50, 51, 52]⟩] w fun e w' => IsAddr6 p6 e ∧ Below w.heap.size w w' := by
  have hb := below_al (Below.refl w.heap.size w) (Nat.le_refl _) (.cells #[.int .u64 0, .int .u64 0, .pointer none] 154)
  go_enter Tryz.func76, Tryz.ntmps76
  go_wp2_with fail
  refine wp_loop_rounds 5 ?_
  rw [rounds_succ]
  go_wp2_with fail
  rw [rounds_succ]
  go_wp2_with fail
  rw [rounds_succ]
  go_wp2_with fail
  rw [rounds_succ]
  go_wp2_with fail
  rw [rounds_succ]
  go_wp2_with fail
  refine (six3 _ p4 p6 (hG.below hb)).mono ?_
  rintro e w1 ⟨⟨hi, lo, rfl, ho⟩, hb1⟩
  have hr : Row w1 w.heap.size 154 #[.int .u64 0, .int .u64 0, .pointer none] := (Row.new w 154 _).below hb1 (by simp)
  have q0 := hr.cell 0
  have q1 := hr.cell 1
  have q2 := hr.cell 2
  have f0 := hr.free 0
  have f1 := hr.free 1
  have f2 := hr.free 2
  clear hr
  have HO := Lib.hid ho
  clear ho
  simp only [addrV]
  go_wp2_with fail
  refine bodyPost_ret (v := .tuple #[addrV hi lo p6, .nilIface]) ?h1 rfl ⟨⟨hi, lo, rfl, HO.out⟩, ?h2⟩
  case h1 => simp [results, Tryz.results76, go_sem, q0, q1, q2, addrV]
  case h2 => exact below_st (below_st (below_st (below_next hb hb1 (by simp)) (Nat.le_refl _) _ _) (Nat.le_refl _) _ _) (Nat.le_refl _) _ _

set_option maxRecDepth 100000 in
set_option maxHeartbeats 1000000 in
theorem parseAddr6_4 (w : World) (p4 p6 : Addr) (hG : Glob w p4 p6) : Calls Tryz.prog 76 #[.string ⟨#[50, 48, 48, 49, 58, 100, 98, 56, 58, 48, 58, 49, 58, 50, 58, 51, 58, 52, 58, 53]⟩] w fun e w' => IsAddr6 p6 e ∧ Below w.heap.size w w' := by
  have hb := below_al (Below.refl w.heap.size w) (Nat.le_refl _) (.cells #[.int .u64 0, .int .u64 0, .pointer none] 154)
  go_enter Tryz.func76, Tryz.ntmps76
  go_wp2_with fail
  refine wp_loop_rounds 5 ?_
  rw [rounds_succ]
  go_wp2_with fail
  rw [rounds_succ]
  go_wp2_with fail
  rw [rounds_succ]
  go_wp2_with fail
  rw [rounds_succ]
  go_wp2_with fail
  rw [rounds_succ]
  go_wp2_with fail
  refine (six4 _ p4 p6 (hG.below hb)).mono ?_
  rintro e w1 ⟨⟨hi, lo, rfl, ho⟩, hb1⟩
  have hr : Row w1 w.heap.size 154 #[.int .u64 0, .int .u64 0, .pointer none] := (Row.new w 154 _).below hb1 (by simp)
  have q0 := hr.cell 0
  have q1 := hr.cell 1
  have q2 := hr.cell 2
  have f0 := hr.free 0
  have f1 := hr.free 1
  have f2 := hr.free 2
  clear hr
  have HO := Lib.hid ho
  clear ho
  simp only [addrV]
  go_wp2_with fail
  refine bodyPost_ret (v := .tuple #[addrV hi lo p6, .nilIface]) ?h1 rfl ⟨⟨hi, lo, rfl, HO.out⟩, ?h2⟩
  case h1 => simp [results, Tryz.results76, go_sem, q0, q1, q2, addrV]
  case h2 => exact below_st (below_st (below_st (below_next hb hb1 (by simp)) (Nat.le_refl _) _ _) (Nat.le_refl _) _ _) (Nat.le_refl _) _ _

theorem addr6_is {p4 p6 : Addr} {P : World → Prop} {e : Ending} {w : World} (h : IsAddr6 p6 e ∧ P w) : IsAddr true p4 p6 e ∧ P w := by
  obtain ⟨⟨hi, lo, he, ho⟩, hp⟩ := h
  exact ⟨⟨hi, lo, p6, he, rfl, ho⟩, hp⟩
theorem addr4_is {p4 p6 : Addr} {P : World → Prop} {e : Ending} {w : World} (h : IsAddr4Ok p4 e ∧ P w) : IsAddr false p4 p6 e ∧ P w := by
  obtain ⟨⟨lo, he⟩, hp⟩ := h
  exact ⟨⟨0, lo, p4, he, rfl⟩, hp⟩
theorem parseAddr_ok {six : Bool} {s : ByteArray} (h : addrText six s) (hs : s.size ≤ maxLen) (w : World) (p4 p6 : Addr) (hG : Glob w p4 p6) :
    Calls Tryz.prog 76 #[.string s] w fun e w' => IsAddr six p4 p6 e ∧ Below w.heap.size w w' := by
  cases six
  · exact (parseAddr4 s hs h w p4 p6 hG).mono fun e w' h => addr4_is (P := fun w' => Below w.heap.size w w') h
  · rcases h with rfl | rfl | rfl | rfl | rfl
    · exact (parseAddr6_0 w p4 p6 hG).mono fun e w' h => addr6_is (P := fun w' => Below w.heap.size w w') h
    · exact (parseAddr6_1 w p4 p6 hG).mono fun e w' h => addr6_is (P := fun w' => Below w.heap.size w w') h
    · exact (parseAddr6_2 w p4 p6 hG).mono fun e w' h => addr6_is (P := fun w' => Below w.heap.size w w') h
    · exact (parseAddr6_3 w p4 p6 hG).mono fun e w' h => addr6_is (P := fun w' => Below w.heap.size w w') h
    · exact (parseAddr6_4 w p4 p6 hG).mono fun e w' h => addr6_is (P := fun w' => Below w.heap.size w w') h

theorem drop_list (s : ByteArray) (a : Nat) : (s.extract a s.size).toList = s.data.toList.drop a := by
  rw [Lib.toList_data, Lib.extract_to_end]

/-- No letter of such a text is an 'l'. -/
theorem addr_no_l {six : Bool} {s : ByteArray} (h : addrText six s) : ∀ c ∈ s.data.toList, c ≠ 108 := by
  cases six
  · intro c hc e
    obtain ⟨k, hk, rfl⟩ := List.mem_iff_getElem.1 hc
    have := Ip.letters h k hk
    rw [e] at this
    simp at this
  · rcases h with rfl | rfl | rfl | rfl | rfl
    all_goals decide

theorem no_tail {six : Bool} {s : ByteArray} (h : addrText six s) (a : Nat) (l : List UInt8) (hl : (108 : UInt8) ∈ l) : ((s.extract a s.size).toList == l) = false := by
  rw [drop_list]
  simp only [beq_eq_false_iff_ne, ne_eq]
  intro e
  have h1 : (108 : UInt8) ∈ s.data.toList.drop a := by rw [e]; exact hl
  exact addr_no_l h _ (List.mem_of_mem_drop h1) rfl

set_option maxRecDepth 100000 in
set_option maxHeartbeats 400000 in
theorem noLocal {six : Bool} {s : ByteArray} (h : addrText six s) (hs : s.size ≤ maxLen) (w : World) : Calls Tryz.prog 75 #[.string s, .string ⟨#[46, 108, 111, 99, 97, 108]⟩] w fun e w' => e = .returned (.bool false) ∧ w = w' := by
  unfold maxLen at hs
  have hn := no_tail h (s.size - 6) [46, 108, 111, 99, 97, 108] (by decide)
  clear h
  by_cases hk : 6 ≤ s.size
  · go_enter Tryz.func75, Tryz.ntmps75
    go_wp2
    go_ret
    exact ⟨rfl, rfl⟩
  · go_enter Tryz.func75, Tryz.ntmps75
    go_wp2
    go_ret
    exact ⟨rfl, rfl⟩

set_option maxRecDepth 100000 in
set_option maxHeartbeats 400000 in
theorem noInvalid {six : Bool} {s : ByteArray} (h : addrText six s) (hs : s.size ≤ maxLen) (w : World) : Calls Tryz.prog 75 #[.string s, .string ⟨#[46, 105, 110, 118, 97, 108, 105, 100]⟩] w fun e w' => e = .returned (.bool false) ∧ w = w' := by
  unfold maxLen at hs
  have hn := no_tail h (s.size - 8) [46, 105, 110, 118, 97, 108, 105, 100] (by decide)
  clear h
  by_cases hk : 8 ≤ s.size
  · go_enter Tryz.func75, Tryz.ntmps75
    go_wp2
    go_ret
    exact ⟨rfl, rfl⟩
  · go_enter Tryz.func75, Tryz.ntmps75
    go_wp2
    go_ret
    exact ⟨rfl, rfl⟩

end Go.Proofs.YtmfdbcfpcifmcaaGreatDoor
