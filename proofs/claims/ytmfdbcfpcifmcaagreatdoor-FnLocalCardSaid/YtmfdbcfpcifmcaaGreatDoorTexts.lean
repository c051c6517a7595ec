/- strings.ToLower, HasPrefix and HasSuffix at the texts that this program hands them, and the type of a network by its name and an address. (Written by mkdet.py.) -/
import Derived.Test.YtmfdbcfpcifmcaaGreatDoorZone
namespace Go.Proofs.YtmfdbcfpcifmcaaGreatDoor
open Go.RowKit

/-- All letters of a text are ASCII and none is a capital. -/
def Low (s : ByteArray) : Prop := ∀ (k : Nat) (h : k < s.size), s[k].toNat < 128 ∧ (s[k].toNat < 65 ∨ 90 < s[k].toNat)

set_option maxRecDepth 100000 in
set_option maxHeartbeats 400000 in
theorem toLower_low (s : ByteArray) (w : World) (hs : s.size ≤ maxLen) (hl : Low s) :
    Calls Tryz.prog 87 #[.string s] w fun e w' => e = .returned (.string s) ∧ w = w' := by
  unfold maxLen at hs
  go_enter Tryz.func87, Tryz.ntmps87
  go_wp2
  go_loop [3, 4, 5] (fun a b i => ∃ k : Nat, k ≤ s.size ∧ a = .bool true ∧ b = .bool false ∧ i = .int .i64 k) (fun _ _ i => s.size - (intOf i).toNat)
  case atStart => exact ⟨0, Nat.zero_le _, rfl, rfl, rfl⟩
  case round =>
    obtain ⟨k, hk, rfl, rfl, rfl⟩ := hrel
    by_cases hlt : k < s.size
    · have h1 := hl k hlt
      obtain ⟨h1, h2⟩ := h1
      have h1' : (s[k].toNat : Int) < 128 := by omega
      rcases h2 with h2 | h2
      · have h3 : (s[k].toNat : Int) < 65 := by omega
        clear hl
        go_wp2
        go_round
        case rel => exact ⟨k + 1, by omega, rfl, rfl, by go_num⟩
        case measure => simp [intOf]; omega
      · have h3 : decide ((s[k].toNat : Int) ≤ 90) = false := by simp; omega
        clear hl
        go_wp2
        go_round
        case rel => exact ⟨k + 1, by omega, rfl, rfl, by go_num⟩
        case measure => simp [intOf]; omega
    · go_wp2
      go_ret
      exact ⟨rfl, rfl⟩

theorem low_of (s : ByteArray) (h : s.data.toList.all (fun c => decide (c.toNat < 128) && (decide (c.toNat < 65) || decide (90 < c.toNat))) = true) : Low s := by
  intro k hk
  have := List.all_eq_true.1 h (s[k]) (by simp [ByteArray.getElem_eq_getElem_data])
  simpa using this

/-- The names of networks that the program knows. -/
def netName (tcp : Bool) (s : ByteArray) : Prop :=
  match tcp with
  | false => s = ⟨#[117, 100, 112]⟩ ∨ s = ⟨#[117, 100, 112, 52]⟩ ∨ s = ⟨#[117, 100, 112, 54]⟩
  | true => s = ⟨#[116, 99, 112]⟩ ∨ s = ⟨#[116, 99, 112, 52]⟩ ∨ s = ⟨#[116, 99, 112, 54]⟩
theorem netName_low {tcp : Bool} {s : ByteArray} (h : netName tcp s) : Low s ∧ s.size ≤ maxLen := by
  cases tcp <;> rcases h with rfl | rfl | rfl
  all_goals exact ⟨low_of _ (by decide), Nat.le_of_lt (by decide)⟩


set_option maxRecDepth 100000 in
set_option maxHeartbeats 400000 in
theorem prefix_udp {tcp : Bool} {s : ByteArray} (h : netName tcp s) (w : World) :
    Calls Tryz.prog 92 #[.string s, .string ⟨#[117, 100, 112]⟩] w fun e w' => e = .returned (.bool !tcp) ∧ w = w' := by
  cases tcp <;> rcases h with rfl | rfl | rfl
  · go_enter Tryz.func92, Tryz.ntmps92
    have e0 : (ByteArray.mk #[117, 100, 112]).extract 0 3 = ⟨#[117, 100, 112]⟩ := by rfl
    go_wp2
    go_ret
    exact ⟨rfl, rfl⟩
  · go_enter Tryz.func92, Tryz.ntmps92
    have e0 : (ByteArray.mk #[117, 100, 112, 52]).extract 0 3 = ⟨#[117, 100, 112]⟩ := by rfl
    go_wp2
    go_ret
    exact ⟨rfl, rfl⟩
  · go_enter Tryz.func92, Tryz.ntmps92
    have e0 : (ByteArray.mk #[117, 100, 112, 54]).extract 0 3 = ⟨#[117, 100, 112]⟩ := by rfl
    go_wp2
    go_ret
    exact ⟨rfl, rfl⟩
  · go_enter Tryz.func92, Tryz.ntmps92
    have e0 : (ByteArray.mk #[116, 99, 112]).extract 0 3 = ⟨#[116, 99, 112]⟩ := by rfl
    go_wp2
    go_ret
    exact ⟨rfl, rfl⟩
  · go_enter Tryz.func92, Tryz.ntmps92
    have e0 : (ByteArray.mk #[116, 99, 112, 52]).extract 0 3 = ⟨#[116, 99, 112]⟩ := by rfl
    go_wp2
    go_ret
    exact ⟨rfl, rfl⟩
  · go_enter Tryz.func92, Tryz.ntmps92
    have e0 : (ByteArray.mk #[116, 99, 112, 54]).extract 0 3 = ⟨#[116, 99, 112]⟩ := by rfl
    go_wp2
    go_ret
    exact ⟨rfl, rfl⟩

set_option maxRecDepth 100000 in
set_option maxHeartbeats 400000 in
theorem prefix_tcp {s : ByteArray} (h : netName true s) (w : World) :
    Calls Tryz.prog 92 #[.string s, .string ⟨#[116, 99, 112]⟩] w fun e w' => e = .returned (.bool true) ∧ w = w' := by
  rcases h with rfl | rfl | rfl
  · go_enter Tryz.func92, Tryz.ntmps92
    have e0 : (ByteArray.mk #[116, 99, 112]).extract 0 3 = ⟨#[116, 99, 112]⟩ := by rfl
    go_wp2
    go_ret
    exact ⟨rfl, rfl⟩
  · go_enter Tryz.func92, Tryz.ntmps92
    have e0 : (ByteArray.mk #[116, 99, 112, 52]).extract 0 3 = ⟨#[116, 99, 112]⟩ := by rfl
    go_wp2
    go_ret
    exact ⟨rfl, rfl⟩
  · go_enter Tryz.func92, Tryz.ntmps92
    have e0 : (ByteArray.mk #[116, 99, 112, 54]).extract 0 3 = ⟨#[116, 99, 112]⟩ := by rfl
    go_wp2
    go_ret
    exact ⟨rfl, rfl⟩

/-- Which address it is: of IPv4 by its handle, or one of IPv6. -/
def Own (six : Bool) (p4 p6 : Addr) (hi lo : Int) (p : Addr) : Prop :=
  match six with
  | false => p = p4
  | true => p = p6 ∧ Own6 hi lo
theorem Own.unmap {six : Bool} {p4 p6 : Addr} {hi lo : Int} {p : Addr} (ho : Own six p4 p6 hi lo p) (w : World) (hG : Glob w p4 p6) : Calls Tryz.prog 91 #[addrV hi lo p] w fun e w' => e = .returned (addrV hi lo p) ∧ Below w.heap.size w w' := by
  cases six
  · obtain rfl : p = p4 := ho
    exact unmap4 hi lo w p p6 hG
  · obtain ⟨rfl, ho⟩ := ho
    exact unmap6 hi lo ho w p4 p hG
theorem Own.is4 {six : Bool} {p4 p6 : Addr} {hi lo : Int} {p : Addr} (ho : Own six p4 p6 hi lo p) (w : World) (hG : Glob w p4 p6) : Calls Tryz.prog 93 #[addrV hi lo p] w fun e w' => e = .returned (.bool !six) ∧ Below w.heap.size w w' := by
  cases six
  · obtain rfl : p = p4 := ho
    exact is4_4 hi lo w p p6 hG
  · obtain ⟨rfl, ho⟩ := ho
    exact is4_6 hi lo w p4 p hG

def netNum (tcp six : Bool) : Int := match tcp, six with | false, false => 1 | false, true => 2 | true, false => 3 | true, true => 4

set_option maxRecDepth 100000 in
set_option maxHeartbeats 400000 in
theorem netType {tcp six : Bool} {s : ByteArray} (hn : netName tcp s) {p4 p6 : Addr} {hi lo : Int} {p : Addr} (ho : Own six p4 p6 hi lo p) (w : World) (hG : Glob w p4 p6) :
    Calls Tryz.prog 78 #[.string s, addrV hi lo p] w fun e w' => e = .returned (.tuple #[.int .i64 (netNum tcp six), .nilIface]) ∧ Below w.heap.size w w' := by
  obtain ⟨hlow, hsz⟩ := netName_low hn
  have hb := below_al (Below.refl w.heap.size w) (Nat.le_refl _) (.cells #[.int .u64 hi, .int .u64 lo, .pointer (some p)] 154)
  have hA := hG.below hb
  show Calls Tryz.prog 78 #[.string s, .agg #[.int .u64 hi, .int .u64 lo, .pointer (some p)]] w _
  have HLow := Lib.hid (fun W => toLower_low s W hsz hlow)
  clear hlow hsz
  go_enter Tryz.func78, Tryz.ntmps78
  go_wp2_with fail
  refine (ho.unmap _ hA).mono ?_
  rintro e w1 ⟨rfl, hb1⟩
  have hr : Row w1 w.heap.size 154 #[.int .u64 hi, .int .u64 lo, .pointer (some p)] := (Row.new w 154 _).below hb1 (by simp)
  have hb01 := below_next hb hb1 (by simp)
  have h1G := hG.below hb01
  have r0 := hr.cell 0
  have r1 := hr.cell 1
  have r2 := hr.cell 2
  have s0 := hr.free 0
  have s1 := hr.free 1
  have s2 := hr.free 2
  simp only [addrV]
  go_wp2_with fail
  refine (HLow.out _).mono ?_
  rintro e w' ⟨rfl, rfl⟩
  have hb2 : Below w.heap.size w (((w1.setCell ⟨w.heap.size, 0, none⟩ (.int .u64 hi)).setCell ⟨w.heap.size, 1, none⟩ (.int .u64 lo)).setCell ⟨w.heap.size, 2, none⟩ (.pointer (some p))) := below_st (below_st (below_st hb01 (Nat.le_refl _) _ _) (Nat.le_refl _) _ _) (Nat.le_refl _) _ _
  have hr2 : Row (((w1.setCell ⟨w.heap.size, 0, none⟩ (.int .u64 hi)).setCell ⟨w.heap.size, 1, none⟩ (.int .u64 lo)).setCell ⟨w.heap.size, 2, none⟩ (.pointer (some p))) w.heap.size 154 #[.int .u64 hi, .int .u64 lo, .pointer (some p)] := ((hr.set 0 _).set 1 _).set 2 _
  have h2G := hG.below hb2
  generalize ((w1.setCell ⟨w.heap.size, 0, none⟩ (.int .u64 hi)).setCell ⟨w.heap.size, 1, none⟩ (.int .u64 lo)).setCell ⟨w.heap.size, 2, none⟩ (.pointer (some p)) = W at *
  clear r0 r1 r2 s0 s1 s2 hr h1G hb01 hb1
  have q0 := hr2.cell 0
  have q1 := hr2.cell 1
  have q2 := hr2.cell 2
  have hsz2 := hb2.size
  go_wp2_with fail
  refine (prefix_udp hn _).mono ?_
  rintro e w' ⟨rfl, rfl⟩
  cases tcp
  · go_wp2_with fail
    refine (ho.is4 _ h2G).mono ?_
    rintro e w3 ⟨rfl, hb3⟩
    cases six
    · go_wp2_with fail
      go_ret2
      exact ⟨rfl, below_next hb2 hb3 hsz2⟩
    · go_wp2_with fail
      go_ret2
      exact ⟨rfl, below_next hb2 hb3 hsz2⟩
  · go_wp2_with fail
    refine (HLow.out _).mono ?_
    rintro e w' ⟨rfl, rfl⟩
    go_wp2_with fail
    refine (prefix_tcp hn _).mono ?_
    rintro e w' ⟨rfl, rfl⟩
    go_wp2_with fail
    refine (ho.is4 _ h2G).mono ?_
    rintro e w3 ⟨rfl, hb3⟩
    cases six
    · go_wp2_with fail
      go_ret2
      exact ⟨rfl, below_next hb2 hb3 hsz2⟩
    · go_wp2_with fail
      go_ret2
      exact ⟨rfl, below_next hb2 hb3 hsz2⟩
end Go.Proofs.YtmfdbcfpcifmcaaGreatDoor
