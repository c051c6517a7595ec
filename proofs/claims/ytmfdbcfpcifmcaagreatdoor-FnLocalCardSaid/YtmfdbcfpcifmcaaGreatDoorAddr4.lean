/- net/netip: the text of an IPv4 address is read as an address of IPv4. -/
import Derived.Test.YtmfdbcfpcifmcaaGreatDoorFields
namespace Go.Proofs.YtmfdbcfpcifmcaaGreatDoor
open Go.RowKit

/-- What package netip's three variables hold: z4, z6noz point to blocks of their own, z0 is nil. -/
structure Glob (w : World) (p4 p6 : Addr) : Prop where
  z4 : w.cell? ⟨0, 0, none⟩ = some (.pointer (some p4))
  z6 : w.cell? ⟨2, 0, none⟩ = some (.pointer (some p6))
  z0 : w.cell? ⟨4, 0, none⟩ = some (.pointer none)
  ne : p4 ≠ p6
  b4 : ∃ c t, w.heap[p4.block]? = some (.cells c t (0, 0))
  b6 : ∃ c t, w.heap[p6.block]? = some (.cells c t (0, 0))

theorem lt_of_some {w : World} {b : Nat} {o : Obj} (h : w.heap[b]? = some o) : b < w.heap.size := by
  rcases Nat.lt_or_ge b w.heap.size with hl | hl
  · exact hl
  · rw [Array.getElem?_eq_none hl] at h
    cases h

theorem Glob.below {w w' : World} {p4 p6 : Addr} (h : Glob w p4 p6) (hb : Below w.heap.size w w') : Glob w' p4 p6 := by
  obtain ⟨c4, t4, h4⟩ := h.b4
  obtain ⟨c6, t6, h6⟩ := h.b6
  exact ⟨(hb.cell (World.block_lt_of_cell? _ _ h.z4)).trans h.z4, (hb.cell (World.block_lt_of_cell? _ _ h.z6)).trans h.z6, (hb.cell (World.block_lt_of_cell? _ _ h.z0)).trans h.z0, h.ne,
    ⟨c4, t4, (hb.block _ (lt_of_some h4)).trans h4⟩, ⟨c6, t6, (hb.block _ (lt_of_some h6)).trans h6⟩⟩

/-- An address of package netip by its cells. -/
def addrV (hi lo : Int) (p : Addr) : Value := .agg #[.int .u64 hi, .int .u64 lo, .pointer (some p)]
def IsAddr4 (p4 : Addr) (e : Ending) : Prop := ∃ lo : Int, e = .returned (addrV 0 lo p4)

set_option maxRecDepth 100000 in
set_option maxHeartbeats 400000 in
theorem from4 (a b c d : Int) (w : World) (p4 p6 : Addr) (hG : Glob w p4 p6) :
    Calls Tryz.prog 102 #[.agg #[.int .u8 a, .int .u8 b, .int .u8 c, .int .u8 d]] w fun e w' => IsAddr4 p4 e ∧ Below w.heap.size w w' := by
  have hz := hG.z4
  have hlt : 0 < w.heap.size := World.block_lt_of_cell? _ _ hG.z4
  clear hG
  go_enter Tryz.func102, Tryz.ntmps102
  go_wp2
  refine bodyPost_ret (v := ?v) ?h1 rfl ?h2
  case h1 =>
    simp [results, Tryz.results102, go_sem]
    rfl
  case h2 => exact ⟨⟨_, rfl⟩, below_al (below_al (Below.refl _ _) (Nat.le_refl _) _) (Nat.le_refl _) _⟩

def IsAddr4Ok (p4 : Addr) (e : Ending) : Prop := ∃ lo : Int, e = .returned (.tuple #[addrV 0 lo p4, .nilIface])

set_option maxRecDepth 100000 in
set_option maxHeartbeats 400000 in
theorem parse4 (s : ByteArray) (hs : s.size ≤ maxLen) (hok : Ip.Ok s.data.toList) (w : World) (p4 p6 : Addr) (hG : Glob w p4 p6) :
    Calls Tryz.prog 89 #[.string s] w fun e w' => IsAddr4Ok p4 e ∧ Below w.heap.size w w' := by
  have hs' := hs
  unfold maxLen at hs'
  go_enter Tryz.func89, Tryz.ntmps89
  go_wp2_with fail
  refine (fields_ok s hs hok (w.heap.size + 1) _ ?hF).mono ?_
  case hF => exact ⟨0, 0, 0, 0, by simpa using Row.new (w.alloc (.cells #[.int .u64 0, .int .u64 0, .pointer none] 154)) 199 #[.int .u8 0, .int .u8 0, .int .u8 0, .int .u8 0]⟩
  rintro e w1 ⟨rfl, hg, a, b, c, d, hr⟩
  have hsz := hg.size
  have h0 := hr.cell 0
  have h1 := hr.cell 1
  have h2 := hr.cell 2
  have h3 := hr.cell 3
  have hb1 : Below w.heap.size w w1 := (below_al (below_al (Below.refl _ _) (Nat.le_refl _) (.cells #[.int .u64 0, .int .u64 0, .pointer none] 154)) (Nat.le_refl _) (.cells #[.int .u8 0, .int .u8 0, .int .u8 0, .int .u8 0] 199)).grown hg (by simp; omega) (some_ge (by omega))
  have hr0 : Row w1 w.heap.size 154 #[.int .u64 0, .int .u64 0, .pointer none] :=
    ((Row.new w 154 #[.int .u64 0, .int .u64 0, .pointer none]).alloc (.cells #[.int .u8 0, .int .u8 0, .int .u8 0, .int .u8 0] 199)).grown hg (some_ne (by omega))
  have hs1 := hb1.size
  go_wp2_with fail
  refine (from4 a b c d _ p4 p6 (hG.below hb1)).mono ?_
  rintro e w2 ⟨⟨lo, rfl⟩, hb2⟩
  have hr2 := hr0.below hb2 hr0.lt
  have q0 := hr2.cell 0
  have q1 := hr2.cell 1
  have q2 := hr2.cell 2
  have f0 := hr2.free 0
  have f1 := hr2.free 1
  have f2 := hr2.free 2
  clear hr2 hr0 hr
  simp only [addrV]
  go_wp2_with fail
  refine bodyPost_ret (v := .tuple #[addrV 0 lo p4, .nilIface]) ?h1 rfl ⟨⟨lo, rfl⟩, ?h2⟩
  case h1 => simp [results, Tryz.results89, go_sem, q0, q1, q2, addrV]
  case h2 => exact below_st (below_st (below_st (below_next hb1 hb2 hs1) (Nat.le_refl _) _ _) (Nat.le_refl _) _ _) (Nat.le_refl _) _ _

set_option maxRecDepth 100000 in
set_option maxHeartbeats 400000 in
theorem parseAddr4 (s : ByteArray) (hs : s.size ≤ maxLen) (hok : Ip.Ok s.data.toList) (w : World) (p4 p6 : Addr) (hG : Glob w p4 p6) :
    Calls Tryz.prog 76 #[.string s] w fun e w' => IsAddr4Ok p4 e ∧ Below w.heap.size w w' := by
  have hs' := hs
  unfold maxLen at hs'
  have HL := Lib.hid (show s.data.toList.length = s.size by simp)
  go_enter Tryz.func76, Tryz.ntmps76
  go_wp2_with fail
  go_loop [4] (fun i => ∃ k : Nat, k ≤ s.size ∧ i = .int .i64 k ∧ Hid (∀ c ∈ s.data.toList.take k, c.toNat ≠ 46)) (fun i => s.size - (intOf i).toNat)
  case atStart => exact ⟨0, Nat.zero_le _, rfl, by simp [Hid]⟩
  case round =>
    obtain ⟨k, hk, rfl, HN⟩ := hrel
    by_cases hlt : k < s.size
    · have hk' : k < s.data.toList.length := by rw [HL.out]; exact hlt
      have hb : s[k] = s.data.toList[k] := byte_eq s k hlt _
      have hlet := Ip.letters hok k hk'
      rw [← hb] at hlet
      by_cases hc : s[k].toNat = 46
      · have c1 : ((s[k].toNat : Int) == 46) = true := by simp; omega
        clear hc hlet hb
        go_wp2_with fail
        refine (parse4 s hs hok _ p4 p6 (hG.below (below_al (Below.refl _ _) (Nat.le_refl _) _))).mono ?_
        rintro e w1 ⟨⟨lo, rfl⟩, hb1⟩
        have hr : Row w1 w.heap.size 154 #[.int .u64 0, .int .u64 0, .pointer none] := (Row.new w 154 _).below hb1 (by simp)
        have q0 := hr.cell 0
        have q1 := hr.cell 1
        have q2 := hr.cell 2
        have f0 := hr.free 0
        have f1 := hr.free 1
        have f2 := hr.free 2
        clear hr
        simp only [addrV]
        go_wp2_with fail
        refine bodyPost_ret (v := .tuple #[addrV 0 lo p4, .nilIface]) ?h1 rfl ⟨⟨lo, rfl⟩, ?h2⟩
        case h1 => simp [results, Tryz.results76, go_sem, q0, q1, q2, addrV]
        case h2 => exact below_st (below_st (below_st ((below_al (Below.refl _ _) (Nat.le_refl _) (.cells #[.int .u64 0, .int .u64 0, .pointer none] 154)).trans (hb1.mono (by simp))) (Nat.le_refl _) _ _) (Nat.le_refl _) _ _) (Nat.le_refl _) _ _
      · have d : 48 ≤ s[k].toNat ∧ s[k].toNat ≤ 57 := by omega
        have c1 : ((s[k].toNat : Int) == 46) = false := by simp; omega
        have c2 : ((s[k].toNat : Int) == 58) = false := by simp; omega
        have c3 : ((s[k].toNat : Int) == 37) = false := by simp; omega
        have HN' : Hid (∀ c ∈ s.data.toList.take (k + 1), c.toNat ≠ 46) := by
          intro c hm
          rw [Ip.take_snoc hk'] at hm
          rcases List.mem_append.1 hm with hm | hm
          · exact HN.out c hm
          · rw [List.mem_singleton.1 hm, ← hb]
            exact hc
        clear hc hlet hb d
        go_wp2_with fail
        go_round
        case rel => exact ⟨k + 1, by omega, by go_num, HN'⟩
        case measure => simp [intOf]; omega
    · exfalso
      obtain rfl : k = s.size := by omega
      obtain ⟨v, m, hr⟩ := hok
      have := HN.out
      rw [List.take_of_length_le (by rw [HL.out]; exact Nat.le_refl _)] at this
      have := Ip.no_point _ _ _ hr this
      simp at this
end Go.Proofs.YtmfdbcfpcifmcaaGreatDoor
