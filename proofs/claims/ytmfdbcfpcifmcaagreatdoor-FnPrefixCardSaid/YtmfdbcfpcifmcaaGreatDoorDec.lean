/- spec.Decimal, KindText, TCPText. -/
import Derived.Test.YtmfdbcfpcifmcaaGreatDoorMf
namespace Go.Proofs.YtmfdbcfpcifmcaaGreatDoor
open Go.RowKit

def decStr (u : Nat) : ByteArray := ⟨(Lib.decDigits u).toArray⟩

set_option maxRecDepth 100000 in
set_option maxHeartbeats 400000 in
theorem decOne (u : Nat) (h : u < 10) (w : World) : Calls Tryz.prog 43 #[.int .u64 (u : Int)] w fun e w' => e = .returned (.string (decStr u)) ∧ Below w.heap.size w w' := by
  have hcv : ∀ (W : World) (a : Addr), W.cell? a = some (.int .u8 (48 + (u : Int))) → (convert 127 9 (.slice (some a) 1 1)).run Tryz.prog W = .ok (.string (decStr u)) W := fun W a hc => by
    have r := run_convert_bytes_back (P := Tryz.prog) W 127 9 5 a 1 [UInt8.ofNat (48 + u)] (by kernel_rfl) (by kernel_rfl) (by kernel_rfl) (fun j hj => by
      obtain rfl : j = 0 := by simpa using hj
      have e0 : a.add 0 = a := by simp [Addr.add]
      rw [e0, hc]
      simp
      omega)
    unfold decStr
    rw [Lib.decDigits_one h]
    exact r
  have hc := hcv (w.alloc (.cells #[.int .u8 (48 + (u : Int))] 5)) ⟨w.heap.size, 0, none⟩ (by simp)
  clear hcv
  go_enter Tryz.func43, Tryz.ntmps43
  go_wp2_with fail
  go_ret
  exact ⟨rfl, below_al (Below.refl _ _) (Nat.le_refl _) _⟩

set_option maxRecDepth 100000 in
set_option maxHeartbeats 400000 in
theorem decimal (u : Nat) (h : u < 4294967296) (w : World) : Calls Tryz.prog 43 #[.int .u64 (u : Int)] w fun e w' => e = .returned (.string (decStr u)) ∧ Below w.heap.size w w' := by
  induction u using Nat.strongRecOn generalizing w with
  | _ u ih =>
    by_cases h10 : u < 10
    · exact decOne u h10 w
    · have i1 := ih (u / 10) (by omega) (by omega)
      have i2 := ih (u % 10) (by omega) (by omega)
      have e1 : ((u / 10 : Nat) : Int) = (u : Int) / 10 := by omega
      have e2 : ((u % 10 : Nat) : Int) = (u : Int) % 10 := by omega
      rw [e1] at i1
      rw [e2] at i2
      clear e1 e2
      have hst : Hid (decStr u = decStr (u / 10) ++ decStr (u % 10)) := Lib.hid (by
        unfold decStr
        rw [Lib.decDigits, dif_neg h10, Lib.decDigits_one (i := u % 10) (by omega)]
        apply ByteArray.ext
        simp [ByteArray.data_append])
      have hn1 : Lib.nDigits (u / 10) ≤ 20 := by
        have := (Lib.numDigits_eq (u / 10) (by omega) (by omega))
        split at this <;> omega
      have s1 : (decStr (u / 10)).size ≤ 20 := by
        have : (decStr (u / 10)).size = (Lib.decDigits (u / 10)).length := by simp [decStr, ByteArray.size]
        rw [this, Lib.decDigits_length]
        exact hn1
      have s2 : (decStr (u % 10)).size ≤ 20 := by
        have : (decStr (u % 10)).size = (Lib.decDigits (u % 10)).length := by simp [decStr, ByteArray.size]
        rw [this, Lib.decDigits_length, Lib.nDigits_small (by omega)]
        omega
      rw [hst.out]
      clear hst hn1 ih
      generalize decStr (u / 10) = d1 at *
      generalize decStr (u % 10) = d2 at *
      go_enter Tryz.func43, Tryz.ntmps43
      go_wp2_with fail
      refine (i1 _).mono ?_
      rintro e w1 ⟨rfl, hb1⟩
      go_wp2_with fail
      refine (i2 _).mono ?_
      rintro e w2 ⟨rfl, hb2⟩
      go_wp2_with fail
      go_ret
      exact ⟨rfl, hb1.trans (hb2.mono hb1.size)⟩

set_option maxRecDepth 100000 in
set_option maxHeartbeats 400000 in
theorem kindText (k : Nat) (h1 : 1 ≤ k) (h4 : k ≤ 4) (w : World) : Calls Tryz.prog 44 #[.int .i64 (k : Int)] w fun e w' => e = .returned (.string (kindStr k)) ∧ Below w.heap.size w w' := by
  have hk : k = 1 ∨ k = 2 ∨ k = 3 ∨ k = 4 := by omega
  rcases hk with rfl | rfl | rfl | rfl
  all_goals
    go_enter Tryz.func44, Tryz.ntmps44
    go_wp2
    go_ret
    exact ⟨rfl, below_al (Below.refl _ _) (Nat.le_refl _) _⟩

set_option maxRecDepth 100000 in
set_option maxHeartbeats 400000 in
theorem tcpText (t : Int) (h1 : 1 ≤ t) (h3 : t ≤ 3) (w : World) : Calls Tryz.prog 45 #[.int .i64 t] w fun e w' => e = .returned (.string (tcpStr t)) ∧ Below w.heap.size w w' := by
  have hk : t = 1 ∨ t = 2 ∨ t = 3 := by omega
  rcases hk with rfl | rfl | rfl
  all_goals
    go_enter Tryz.func45, Tryz.ntmps45
    go_wp2
    go_ret
    exact ⟨rfl, below_al (Below.refl _ _) (Nat.le_refl _) _⟩
end Go.Proofs.YtmfdbcfpcifmcaaGreatDoor
