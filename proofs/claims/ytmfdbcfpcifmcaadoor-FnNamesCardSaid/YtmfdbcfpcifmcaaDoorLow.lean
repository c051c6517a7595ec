import Derived.Test.YtmfdbcfpcifmcaaDoorRows
import Derived.WalkKit
import Derived.WalkSpells
import Derived.WalkLawsBesides
import Derived.Lib.Hide
namespace Go.Proofs.YtmfdbcfpcifmcaaDoor
open Go.RowKit

/-- All letters of a text are ASCII and none is a capital. -/
def Low (s : ByteArray) : Prop := ∀ (k : Nat) (h : k < s.size), s[k].toNat < 128 ∧ (s[k].toNat < 65 ∨ 90 < s[k].toNat)

set_option maxRecDepth 100000 in
set_option maxHeartbeats 400000 in
theorem toLower_low (s : ByteArray) (w : World) (hs : s.size ≤ maxLen) (hl : Low s) :
    Calls Tryd.prog 14 #[.string s] w fun e w' => e = .returned (.string s) ∧ w = w' := by
  unfold maxLen at hs
  go_enter Tryd.func14, Tryd.ntmps14
  go_wp2
  go_loop [3, 4, 5] (fun a b i => ∃ k : Nat, k ≤ s.size ∧ a = .bool true ∧ b = .bool false ∧ i = .int .i64 k) (fun _ _ i => s.size - (intOf i).toNat)
  case atStart => exact ⟨0, Nat.zero_le _, rfl, rfl, rfl⟩
  case round =>
    obtain ⟨k, hk, rfl, rfl, rfl⟩ := hrel
    by_cases hlt : k < s.size
    · have h1 := hl k hlt
      obtain ⟨h1, h2⟩ := h1
      have h1' : (s[k].toNat : Int) < 128 := by omega
      rcases h2 with h2 | h2
      · have h3 : (s[k].toNat : Int) < 65 := by omega
        clear hl
        go_wp2
        go_round
        case rel => exact ⟨k + 1, by omega, rfl, rfl, by go_num⟩
        case measure => simp [intOf]; omega
      · have h3 : decide ((s[k].toNat : Int) ≤ 90) = false := by simp; omega
        clear hl
        go_wp2
        go_round
        case rel => exact ⟨k + 1, by omega, rfl, rfl, by go_num⟩
        case measure => simp [intOf]; omega
    · go_wp2
      go_ret
      exact ⟨rfl, rfl⟩
end Go.Proofs.YtmfdbcfpcifmcaaDoor
