/- The reference's tests on texts: word, six, TCP; what follows where they say yes. -/
import Derived.Test.YtmfdbcfpcifmcaaGreatDoorMade
import Derived.Test.YtmfdbcfpcifmcaaGreatDoorClose
import Derived.LoopTactic
namespace Go.Proofs.YtmfdbcfpcifmcaaGreatDoor
open Go.RowKit

/-- A bool is told; 'true' stands for p. -/
def Says (p : Prop) (e : Ending) : Prop := ∃ b, e = .returned (.bool b) ∧ (b = true → p)
theorem Says.no {p : Prop} : Says p (.returned (.bool false)) := ⟨false, rfl, Bool.noConfusion⟩
theorem Says.yes {p : Prop} (h : p) : Says p (.returned (.bool true)) := ⟨true, rfl, fun _ => h⟩
theorem Says.of {p : Prop} {b : Bool} (h : b = true → p) : Says p (.returned (.bool b)) := ⟨b, rfl, h⟩

theorem text_eq {s : ByteArray} {l : List UInt8} (h : (s.toList == l) = true) : s = ⟨l.toArray⟩ := by
  have h1 : s.data.toList = l := by rw [← Lib.toList_data]; exact eq_of_beq h
  exact WideShapes.bytes_inj (by rw [h1])

set_option maxRecDepth 100000 in
set_option maxHeartbeats 2000000 in
/-- spec.six: yes for the five texts alone. -/
theorem specSix (s : ByteArray) (w : World) : Calls Tryz.prog 52 #[.string s] w fun e w' => Says (addrText true s) e ∧ w = w' := by
  go_enter Tryz.func52, Tryz.ntmps52
  go_wp2
  all_goals
    rename_i hs
    first
      | (go_ret; exact ⟨Says.no, rfl⟩)
      | (go_ret; exact ⟨Says.yes (.inl (text_eq hs)), rfl⟩)
      | (go_ret; exact ⟨Says.yes (.inr (.inl (text_eq hs))), rfl⟩)
      | (go_ret; exact ⟨Says.yes (.inr (.inr (.inl (text_eq hs)))), rfl⟩)
      | (go_ret; exact ⟨Says.yes (.inr (.inr (.inr (.inl (text_eq hs))))), rfl⟩)
      | (go_ret; exact ⟨Says.yes (.inr (.inr (.inr (.inr (text_eq hs))))), rfl⟩)

set_option maxRecDepth 100000 in
set_option maxHeartbeats 2000000 in
theorem specTcp (n : Int) (w : World) : Calls Tryz.prog 14 #[.int .i64 n] w fun e w' => e = .returned (.bool (n == 3 || n == 4)) ∧ w = w' := by
  go_enter Tryz.func14, Tryz.ntmps14
  go_wp2
  · go_ret
    rename_i h
    subst h
    exact ⟨rfl, rfl⟩
  · go_ret
    exact ⟨rfl, rfl⟩

theorem specTcpV (n : Int) (b : Bool) (h : (n == 3 || n == 4) = b) (w : World) : Calls Tryz.prog 14 #[.int .i64 n] w fun e w' => e = .returned (.bool b) ∧ w' = w :=
  (specTcp n w).mono fun _ _ ⟨he, hw⟩ => ⟨by rw [he, h], hw.symm⟩

/-- The characters of ICE, one by one. -/
def isWordChar (c : Nat) : Prop := (97 ≤ c ∧ c ≤ 122) ∨ (65 ≤ c ∧ c ≤ 90) ∨ (48 ≤ c ∧ c ≤ 57) ∨ c = 43 ∨ c = 47
def Word (s : ByteArray) (most : Int) : Prop := 0 < s.size ∧ (s.size : Int) ≤ most ∧ ∀ k (h : k < s.size), isWordChar s[k].toNat

theorem word_next {s : ByteArray} {k : Nat} (h : ∀ j (h : j < s.size), j < k → isWordChar s[j].toNat) {hk : k < s.size} (hc : isWordChar s[k].toNat) : ∀ j (h : j < s.size), j < k + 1 → isWordChar s[j].toNat := by
  intro j hj hjk
  by_cases hjk2 : j = k
  · subst hjk2
    exact hc
  · exact h j hj (by omega)

set_option maxRecDepth 100000 in
set_option maxHeartbeats 4000000 in
theorem specWord (s : ByteArray) (hs : s.size ≤ 9223372036854775807) (most : Int) (w : World) : Calls Tryz.prog 31 #[.string s, .int .i64 most] w fun e w' => Says (Word s most) e ∧ Below w.heap.size w w' := by
  go_enter Tryz.func31, Tryz.ntmps31
  go_wp2_with fail
  go_loopw [9] (fun i wr => ∃ (k : Nat), k ≤ s.size ∧ i = .int .i64 k ∧ Hid (∀ j (h : j < s.size), j < k → isWordChar s[j].toNat) ∧ w = wr) (fun i _ => s.size - (intOf i).toNat)
  case atStart => exact ⟨0, Nat.zero_le _, rfl, fun j _ h => absurd h (Nat.not_lt_zero j), rfl⟩
  case round =>
    obtain ⟨k, hk, rfl, HW, rfl⟩ := hrel
    by_cases hlt : k < s.size
    · have hx : (0 : Int) ≤ s[k].toNat ∧ (s[k].toNat : Int) ≤ 255 := ⟨by omega, byte_lt _⟩
      go_wp2_with fail
      all_goals first | (go_ret; exact ⟨Says.no, Below.refl _ _⟩) | (refine ⟨⟨k + 1, hlt, rfl, word_next (hk := hlt) HW.out ?_, trivial⟩, by simp [intOf]; omega⟩; unfold isWordChar; (try simp only [bne_eq_false_iff_eq] at *); omega)
    · have hkk : k = s.size := by omega
      have hfin : ¬ s.toList = [] → (!s.toList.isEmpty && decide ((s.size : Int) ≤ most)) = true → Word s most := by
        intro he h
        have h2 : decide ((s.size : Int) ≤ most) = true := (Bool.and_eq_true _ _ ▸ h).2
        refine ⟨?_, of_decide_eq_true h2, fun j hj => HW.out j hj (by omega)⟩
        rcases Nat.eq_zero_or_pos s.size with h0 | h0
        · exfalso
          apply he
          rw [Lib.toList_data]
          exact List.eq_nil_of_length_eq_zero (by simpa using h0)
        · exact h0
      go_wp2_with fail
      all_goals rename_i he; go_ret
      · exact ⟨Says.no, Below.refl _ _⟩
      · exact ⟨Says.of (hfin he), Below.refl _ _⟩
end Go.Proofs.YtmfdbcfpcifmcaaGreatDoor
