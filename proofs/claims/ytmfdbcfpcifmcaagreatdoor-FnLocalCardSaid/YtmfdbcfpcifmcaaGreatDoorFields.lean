/- What net/netip's reader of an IPv4 address' four numbers does at the text of one. -/
import Derived.Test.YtmfdbcfpcifmcaaGreatDoorPlain
import Derived.Test.YtmfdbcfpcifmcaaGreatDoorBase
namespace Go.Proofs.YtmfdbcfpcifmcaaGreatDoor
open Go.RowKit

/-- The array of four numbers, some bytes in it. -/
def Four (w : World) (g : Nat) : Prop := ∃ a b c d : Int, Row w g 199 #[.int .u8 a, .int .u8 b, .int .u8 c, .int .u8 d]
theorem four_set {w : World} {g i : Nat} (h : Four w g) (hi : i < 4) (x : Int) : Four (w.setCell ⟨g, i, none⟩ (.int .u8 x)) g := by
  obtain ⟨a, b, c, d, h⟩ := h
  have h' := h.set i (.int .u8 x)
  match i, hi with
  | 0, _ => exact ⟨x, b, c, d, h'⟩
  | 1, _ => exact ⟨a, x, c, d, h'⟩
  | 2, _ => exact ⟨a, b, x, d, h'⟩
  | 3, _ => exact ⟨a, b, c, x, h'⟩

set_option maxRecDepth 100000 in
set_option maxHeartbeats 1000000 in
theorem fields_ok (s : ByteArray) (hs : s.size ≤ maxLen) (hok : Ip.Ok s.data.toList) (g : Nat) (w : World) (hg : Four w g) :
    Calls Tryz.prog 101 #[.string s, .int .i64 0, .int .i64 s.size, .slice (some ⟨g, 0, none⟩) 4 4] w fun e w' => e = .returned .nilIface ∧ w.grownBy w' (some g) ∧ Four w' g := by
  unfold maxLen at hs
  obtain ⟨fv, fm, hrun⟩ := hok
  have hlen : s.data.toList.length = s.size := by simp
  have HR := Lib.hid hrun
  have HL := Lib.hid hlen
  clear hrun hlen
  go_enter Tryz.func101, Tryz.ntmps101
  go_wp2_with fail
  go_loopw [9, 10, 11, 13] (fun v p d i wr => ∃ (k n m q : Nat), k ≤ s.size ∧ n ≤ 255 ∧ m ≤ k ∧ q ≤ 3 ∧ v = .int .i64 n ∧ p = .int .i64 q ∧ d = .int .i64 m ∧ i = .int .i64 k ∧ Hid (Ip.run (s.data.toList.take k) (0, 0, 0) = some (n, m, q)) ∧ w.grownBy wr (some g) ∧ Four wr g) (fun _ _ _ i _ => s.size - (intOf i).toNat)
  case atStart => exact ⟨0, 0, 0, 0, by omega, by omega, by omega, by omega, rfl, rfl, rfl, rfl, rfl, ⟨rfl, rfl, rfl, Nat.le_refl _, fun _ _ _ => rfl⟩, hg⟩
  case round =>
    obtain ⟨k, n, m, q, hk, hn, hm, hq, rfl, rfl, rfl, rfl, HK, hgr, h4⟩ := hrel
    by_cases hlt : k < s.size
    · obtain ⟨st, st', h1, h2, h3⟩ := Ip.run_at HR.out k (by rw [HL.out]; exact hlt)
      rw [HK.out] at h1
      obtain rfl := Option.some.inj h1
      have hb : s[k] = s.data.toList[k]'(by rw [HL.out]; exact hlt) := byte_eq s k hlt _
      rw [← hb] at h2
      by_cases hc : s[k].toNat = 46
      · obtain ⟨e1, e2, rfl⟩ := Ip.step_point h2 hc
        simp only at e1 e2 h3
        obtain ⟨p0, p1⟩ := Ip.ahead (k := k) (by rw [HL.out]; exact hk) HK.out e1
        obtain ⟨l0, l1⟩ := Ip.last HR.out
        have hne : k ≠ s.size - 1 := by
          intro e
          apply l1
          rw [← hc, hb]
          congr 2
          rw [HL.out, e]
        have hb' : s[k - 1]'(by omega) = s.data.toList[k - 1]'(by rw [HL.out]; omega) := byte_eq s (k - 1) (by omega) _
        rw [← hb'] at p1
        have c1 : ((s[k].toNat : Int) == 46) = true := by simp; omega
        have c2 : ((s[k].toNat : Int)) < 48 := by omega
        have c3 : ((k : Int) == 0) = false := by simp; omega
        have c4 : ((k : Int) == (s.size : Int) - 1) = false := by simp; omega
        have c5 : (((s[k - 1]'(by omega)).toNat : Int) == 46) = false := by simp; omega
        have c6 : ((q : Int) == 3) = false := by simp; omega
        have c7 : (1 : Int) ≤ k := by omega
        have q3 : q = 0 ∨ q = 1 ∨ q = 2 := by omega
        have H3 := Lib.hid h3
        clear h1 h2 h3 hb hb' hc e1 e2 hne l1 p1 l0 c6
        obtain ⟨x0, x1, x2, x3, hx⟩ := id h4
        rcases q3 with rfl | rfl | rfl
        · have hcell := hx.cell 0
          have hfree := hx.free 0
          clear hx
          go_wp2_with fail
          go_roundw
          case rel => exact ⟨k + 1, 0, 0, 1, by omega, by omega, by omega, by omega, rfl, rfl, rfl, by go_num, H3.out, only_set hgr 0 _, four_set (i := 0) h4 (by omega) _⟩
          case measure => simp [intOf]; omega
        · have hcell := hx.cell 1
          have hfree := hx.free 1
          clear hx
          go_wp2_with fail
          go_roundw
          case rel => exact ⟨k + 1, 0, 0, 2, by omega, by omega, by omega, by omega, rfl, rfl, rfl, by go_num, H3.out, only_set hgr 1 _, four_set (i := 1) h4 (by omega) _⟩
          case measure => simp [intOf]; omega
        · have hcell := hx.cell 2
          have hfree := hx.free 2
          clear hx
          go_wp2_with fail
          go_roundw
          case rel => exact ⟨k + 1, 0, 0, 3, by omega, by omega, by omega, by omega, rfl, rfl, rfl, by go_num, H3.out, only_set hgr 2 _, four_set (i := 2) h4 (by omega) _⟩
          case measure => simp [intOf]; omega
      · obtain ⟨d1, d2, d3, d4, rfl⟩ := Ip.step_digit h2 hc
        simp only at d3 d4 h3
        have c1 : (48 : Int) ≤ (s[k].toNat : Int) := by omega
        have c2 : (s[k].toNat : Int) ≤ 57 := by omega
        have c3 : (n : Int) * 10 + (s[k].toNat : Int) - 48 ≤ 255 := by omega
        have H3 := Lib.hid h3
        clear h1 h2 h3 hb hc
        by_cases m1 : m = 1
        · subst m1
          have n0 : ((n : Int) == 0) = false := by simp; omega
          clear d1 d2 d3 d4
          go_wp2_with fail
          go_roundw
          case rel => exact ⟨k + 1, n * 10 + (s[k].toNat - 48), 1 + 1, q, by omega, by omega, by omega, hq, i64_eq (by omega), rfl, rfl, by go_num, H3.out, hgr, h4⟩
          case measure => simp [intOf]; omega
        · have m1' : ((m : Int) == 1) = false := by simp; omega
          clear d1 d2 d3 d4
          go_wp2_with fail
          go_roundw
          case rel => exact ⟨k + 1, n * 10 + (s[k].toNat - 48), m + 1, q, by omega, by omega, by omega, hq, i64_eq (by omega), rfl, by go_num, by go_num, H3.out, hgr, h4⟩
          case measure => simp [intOf]; omega
    · obtain rfl : k = s.size := by omega
      have hfull := HR.out
      have hk' := HK.out
      rw [List.take_of_length_le (by rw [HL.out]; exact Nat.le_refl _)] at hk'
      rw [hfull] at hk'
      obtain ⟨rfl, rfl, rfl⟩ : fv = n ∧ fm + 1 = m ∧ 3 = q := by simpa using hk'
      obtain ⟨x0, x1, x2, x3, hx⟩ := id h4
      have hcell := hx.cell 3
      have hfree := hx.free 3
      clear hx hfull hk'
      go_wp2_with fail
      go_ret
      exact ⟨rfl, only_set hgr 3 _, four_set (i := 3) h4 (by omega) _⟩
end Go.Proofs.YtmfdbcfpcifmcaaGreatDoor
