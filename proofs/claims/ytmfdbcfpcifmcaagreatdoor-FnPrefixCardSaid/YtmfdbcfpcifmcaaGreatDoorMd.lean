/- The reference's tests on texts: word, six, TCP; what follows where they say yes. | spec.four: yes for the texts of IPv4 addresses alone. | spec.Proper: what holds where it says yes. (Merged by merge.py out of Spec1, Four, ProperD.) -/
import Derived.Test.YtmfdbcfpcifmcaaGreatDoorMb
import Derived.Test.YtmfdbcfpcifmcaaGreatDoorMc
import Derived.LoopTactic
import Derived.Lib.ConvBytes
import Derived.Test.YtmfdbcfpcifmcaaGreatDoorPFnFormatx0
import Derived.Deep.RegionHeld3
import Derived.Deep.QuietTactic
import Derived.BigQuiet
import Derived.Deep.Cut
import Derived.Deep.LoopGhost
namespace Go.Proofs.YtmfdbcfpcifmcaaGreatDoor
open Go.RowKit

/-- A bool is told; 'true' stands for p. -/
def Says (p : Prop) (e : Ending) : Prop := ∃ b, e = .returned (.bool b) ∧ (b = true → p)
theorem Says.no {p : Prop} : Says p (.returned (.bool false)) := ⟨false, rfl, Bool.noConfusion⟩
theorem Says.yes {p : Prop} (h : p) : Says p (.returned (.bool true)) := ⟨true, rfl, fun _ => h⟩
theorem Says.of {p : Prop} {b : Bool} (h : b = true → p) : Says p (.returned (.bool b)) := ⟨b, rfl, h⟩

theorem text_eq {s : ByteArray} {l : List UInt8} (h : (s.toList == l) = true) : s = ⟨l.toArray⟩ := by
  have h1 : s.data.toList = l := by rw [← Lib.toList_data]; exact eq_of_beq h
  exact WideShapes.bytes_inj (by rw [h1])

set_option maxRecDepth 100000 in
set_option maxHeartbeats 2000000 in
/-- spec.six: yes for the five texts alone. -/
theorem specSix (s : ByteArray) (w : World) : Calls Tryz.prog 52 #[.string s] w fun e w' => Says (addrText true s) e ∧ w = w' := by
  go_enter Tryz.func52, Tryz.ntmps52
  go_wp2
  all_goals
    rename_i hs
    first
      | (go_ret; exact ⟨Says.no, rfl⟩)
      | (go_ret; exact ⟨Says.yes (.inl (text_eq hs)), rfl⟩)
      | (go_ret; exact ⟨Says.yes (.inr (.inl (text_eq hs))), rfl⟩)
      | (go_ret; exact ⟨Says.yes (.inr (.inr (.inl (text_eq hs)))), rfl⟩)
      | (go_ret; exact ⟨Says.yes (.inr (.inr (.inr (.inl (text_eq hs))))), rfl⟩)
      | (go_ret; exact ⟨Says.yes (.inr (.inr (.inr (.inr (text_eq hs))))), rfl⟩)

set_option maxRecDepth 100000 in
set_option maxHeartbeats 2000000 in
theorem specTcp (n : Int) (w : World) : Calls Tryz.prog 14 #[.int .i64 n] w fun e w' => e = .returned (.bool (n == 3 || n == 4)) ∧ w = w' := by
  go_enter Tryz.func14, Tryz.ntmps14
  go_wp2
  · go_ret
    rename_i h
    subst h
    exact ⟨rfl, rfl⟩
  · go_ret
    exact ⟨rfl, rfl⟩

theorem specTcpV (n : Int) (b : Bool) (h : (n == 3 || n == 4) = b) (w : World) : Calls Tryz.prog 14 #[.int .i64 n] w fun e w' => e = .returned (.bool b) ∧ w' = w :=
  (specTcp n w).mono fun _ _ ⟨he, hw⟩ => ⟨by rw [he, h], hw.symm⟩

/-- The characters of ICE, one by one. -/
def isWordChar (c : Nat) : Prop := (97 ≤ c ∧ c ≤ 122) ∨ (65 ≤ c ∧ c ≤ 90) ∨ (48 ≤ c ∧ c ≤ 57) ∨ c = 43 ∨ c = 47
def Word (s : ByteArray) (most : Int) : Prop := 0 < s.size ∧ (s.size : Int) ≤ most ∧ ∀ k (h : k < s.size), isWordChar s[k].toNat

theorem word_next {s : ByteArray} {k : Nat} (h : ∀ j (h : j < s.size), j < k → isWordChar s[j].toNat) {hk : k < s.size} (hc : isWordChar s[k].toNat) : ∀ j (h : j < s.size), j < k + 1 → isWordChar s[j].toNat := by
  intro j hj hjk
  by_cases hjk2 : j = k
  · subst hjk2
    exact hc
  · exact h j hj (by omega)

set_option maxRecDepth 100000 in
set_option maxHeartbeats 4000000 in
theorem specWord (s : ByteArray) (hs : s.size ≤ 9223372036854775807) (most : Int) (w : World) : Calls Tryz.prog 31 #[.string s, .int .i64 most] w fun e w' => Says (Word s most) e ∧ Below w.heap.size w w' := by
  go_enter Tryz.func31, Tryz.ntmps31
  go_wp2_with fail
  go_loopw [9] (fun i wr => ∃ (k : Nat), k ≤ s.size ∧ i = .int .i64 k ∧ Hid (∀ j (h : j < s.size), j < k → isWordChar s[j].toNat) ∧ w = wr) (fun i _ => s.size - (intOf i).toNat)
  case atStart => exact ⟨0, Nat.zero_le _, rfl, fun j _ h => absurd h (Nat.not_lt_zero j), rfl⟩
  case round =>
    obtain ⟨k, hk, rfl, HW, rfl⟩ := hrel
    by_cases hlt : k < s.size
    · have hx : (0 : Int) ≤ s[k].toNat ∧ (s[k].toNat : Int) ≤ 255 := ⟨by omega, byte_lt _⟩
      go_wp2_with fail
      all_goals first | (go_ret; exact ⟨Says.no, Below.refl _ _⟩) | (refine ⟨⟨k + 1, hlt, rfl, word_next (hk := hlt) HW.out ?_, trivial⟩, by simp [intOf]; omega⟩; unfold isWordChar; (try simp only [bne_eq_false_iff_eq] at *); omega)
    · have hkk : k = s.size := by omega
      have hfin : ¬ s.toList = [] → (!s.toList.isEmpty && decide ((s.size : Int) ≤ most)) = true → Word s most := by
        intro he h
        have h2 : decide ((s.size : Int) ≤ most) = true := (Bool.and_eq_true _ _ ▸ h).2
        refine ⟨?_, of_decide_eq_true h2, fun j hj => HW.out j hj (by omega)⟩
        rcases Nat.eq_zero_or_pos s.size with h0 | h0
        · exfalso
          apply he
          rw [Lib.toList_data]
          exact List.eq_nil_of_length_eq_zero (by simpa using h0)
        · exact h0
      go_wp2_with fail
      all_goals rename_i he; go_ret
      · exact ⟨Says.no, Below.refl _ _⟩
      · exact ⟨Says.of (hfin he), Below.refl _ _⟩
end Go.Proofs.YtmfdbcfpcifmcaaGreatDoor

namespace Go.Proofs.YtmfdbcfpcifmcaaGreatDoor
open Go.RowKit

def digit (c : UInt8) : Prop := 48 ≤ c.toNat ∧ c.toNat ≤ 57
/-- Ahead of letter i: 'parts' numbers stand behind us, the next one began at 'at_'. -/
def FourAt (l : List UInt8) (parts a i : Nat) : Prop :=
  (i ≤ l.length ∧ a ≤ i ∧ (∀ k (h : k < l.length), a ≤ k → k < i → digit l[k]) ∧ (parts ≤ 3 → Ip.run (l.take a) (0, 0, 0) = some (0, 0, parts))) ∨ (i = l.length + 1 ∧ a = i ∧ (parts = 4 → Ip.Ok l))

theorem four_start (l : List UInt8) : FourAt l 0 0 0 := .inl ⟨Nat.zero_le _, Nat.le_refl _, fun _ _ _ h => absurd h (Nat.not_lt_zero _), fun _ => rfl⟩
theorem four_digit {l : List UInt8} {parts a i : Nat} (h : FourAt l parts a i) (hi : i < l.length) (hd : digit l[i]) : FourAt l parts a (i + 1) := by
  rcases h with ⟨_, h2, h3, h4⟩ | ⟨h1, _⟩
  · refine .inl ⟨hi, by omega, fun k hk hak hki => ?_, h4⟩
    by_cases hkk : k = i
    · subst hkk
      exact hd
    · exact h3 k hk hak (by omega)
  · omega
theorem four_seg {l : List UInt8} {parts a i : Nat} (hi : i ≤ l.length) (ha : a < i) (hd : ∀ k (h : k < l.length), a ≤ k → k < i → digit l[k]) (hr : Ip.run (l.take a) (0, 0, 0) = some (0, 0, parts))
    (h3 : i - a ≤ 3) (hv : Ip.num ((l.take i).drop a) ≤ 255) (hz : 1 < i - a → (l[a]'(by omega)).toNat ≠ 48) : Ip.run (l.take i) (0, 0, 0) = some (Ip.num ((l.take i).drop a), i - a, parts) := by
  have e : l.take i = l.take a ++ (l.take i).drop a := by
    have h1 := (List.take_append_drop a (l.take i)).symm
    rw [List.take_take, Nat.min_eq_left (by omega)] at h1
    exact h1
  have hlen : ((l.take i).drop a).length = i - a := by simp; omega
  rw [e, Ip.run_append, hr]
  simp only [Option.bind_some]
  have hn := Ip.number (l := (l.take i).drop a) parts (fun k hk => by
      have := hd (a + k) (by omega) (by omega) (by omega)
      simpa [digit] using this) (by omega) (by omega) hv (fun h => by
      have := hz (by omega)
      simpa using this)
  rw [hn, hlen]
  simp [e.symm]
theorem four_end {l : List UInt8} {parts a i : Nat} (h : FourAt l parts a i) (hi : i ≤ l.length) (hp : i = l.length ∨ ∃ h : i < l.length, (l[i]).toNat = 46) (ha : a ≠ i)
    (h3 : i - a ≤ 3) (hv : Ip.num ((l.take i).drop a) ≤ 255) (hz : ∀ h : a < l.length, 1 < i - a → (l[a]).toNat ≠ 48) : FourAt l (parts + 1) (i + 1) (i + 1) := by
  rcases h with ⟨_, h2, hd, hr⟩ | ⟨h1, _⟩
  · have hlt : a < i := by omega
    rcases hp with hp | ⟨hlen, hp⟩
    · refine .inr ⟨by omega, rfl, fun h4 => ?_⟩
      have hs := four_seg hi hlt hd (hr (by omega)) h3 hv (hz (by omega))
      rw [hp, List.take_length] at hs
      rw [hp] at hlt
      obtain ⟨m, hm⟩ : ∃ m, l.length - a = m + 1 := ⟨l.length - a - 1, by omega⟩
      rw [hm] at hs
      have : parts = 3 := by omega
      subst this
      exact ⟨_, m, hs⟩
    · refine .inl ⟨hlen, Nat.le_refl _, fun k _ h5 h6 => by omega, fun h4 => ?_⟩
      have hs := four_seg hi hlt hd (hr (by omega)) h3 hv (hz (by omega))
      rw [Ip.take_snoc hlen, Ip.run_snoc, hs]
      simp only [Option.bind_some]
      unfold Ip.step
      rw [if_pos hp]
      simp only
      rw [if_neg (by omega)]
  · omega

theorem num_bound (l : List UInt8) : Ip.num l + 23 ≤ 23 * 10 ^ l.length := by
  have key : ∀ (l : List UInt8) (n : Nat), l.foldl (fun n c => n * 10 + (c.toNat - 48)) n + 23 ≤ (n + 23) * 10 ^ l.length := by
    intro l
    induction l with
    | nil => intro n; simp
    | cons c r ih =>
      intro n
      simp only [List.foldl_cons, List.length_cons]
      have hc := c.toNat_lt
      refine Nat.le_trans (ih _) ?_
      rw [Nat.pow_succ, ← Nat.mul_assoc, Nat.mul_right_comm]
      exact Nat.mul_le_mul_right _ (by omega)
  have := key l 0
  simpa [Ip.num] using this
theorem four_inner {t : ByteArray} {l : List UInt8} {k parts a i : Nat} {nv : Int} (hk : k < t.size) (ht : t.data.toList = (l.take i).drop a) (hi : i ≤ l.length) (hf : FourAt l parts a i) (hsz : t.size = i - a)
    (hn : k ≤ 3 → nv = (Ip.num (t.data.toList.take k) : Nat)) : k + 1 ≤ 3 → wrap64 (wrap64 (nv * 10) + ((t.data[k].toNat : Int) - 48) % 256) = (Ip.num (t.data.toList.take (k + 1)) : Nat) := by
  intro h3
  have hkl : k < t.data.toList.length := by simpa using hk
  have hd : digit t.data[k] := by
    rcases hf with ⟨_, _, hd, _⟩ | ⟨h1, _⟩
    · have h := hd (a + k) (by omega) (by omega) (by omega)
      have e : t.data[k] = l[a + k]'(by omega) := by
        have h1 : t.data[k] = t.data.toList[k] := (Array.getElem_toList _).symm
        rw [h1]
        simp [ht]
      rwa [e]
    · omega
  obtain ⟨hd1, hd2⟩ := hd
  have hb := num_bound (t.data.toList.take k)
  have hlen : (t.data.toList.take k).length = k := by simp; omega
  rw [hlen] at hb
  have hb2 : Ip.num (t.data.toList.take k) ≤ 2300 := by
    have : 10 ^ k ≤ 100 := by
      have : k = 0 ∨ k = 1 ∨ k = 2 := by omega
      rcases this with rfl | rfl | rfl <;> decide
    omega
  rw [Ip.take_snoc hkl, Ip.num_snoc, hn (by omega)]
  have e2 : t.data.toList[k] = t.data[k] := Array.getElem_toList _
  rw [e2, IntWalk.wrap64_in (((Ip.num (t.data.toList.take k) : Nat) : Int) * 10) (by omega), IntWalk.wrap64_in _ (by omega)]
  omega

theorem below_bytes {B : Nat} {w W : World} (h : Below B w W) (e : TypeId) (t : ByteArray) (hB : B ≤ W.heap.size := by omega) : Below B w (Lib.bytesWorld W e t) :=
  ⟨h.os, h.tape, h.output, by rw [Lib.bytesWorld_size]; exact Nat.le_trans h.size (Nat.le_succ _), fun i hi => (Lib.bytesWorld_at_old W e t i (Nat.lt_of_lt_of_le hi hB)).trans (h.block i hi)⟩

set_option maxRecDepth 100000 in
set_option maxHeartbeats 4000000 in
theorem specFour (s : ByteArray) (hs : s.size ≤ 2147483647) (w : World) : Calls Tryz.prog 51 #[.string s] w fun e w' => Says (addrText false s) e ∧ Below w.heap.size w w' := by
  have HL := Lib.hid (show s.data.toList.length = s.size by simp)
  have hcv : ∀ (W : World) (t : ByteArray), (convert 9 127 (.string t)).run Tryz.prog W = .ok (.slice (some ⟨W.heap.size, 0, none⟩) t.size (grownCap W t.size 0 5)) (Lib.bytesWorld W 5 t) := fun W t => Lib.run_convert_string_bytes W 9 127 5 t Tryz.underlying9 Tryz.underlying127 Tryz.underlying5
  go_enter Tryz.func51, Tryz.ntmps51
  go_wp2_with fail
  go_loopw [3, 4, 5] (fun p a i wr => ∃ (np na ni : Nat), p = .int .i64 np ∧ a = .int .i64 na ∧ i = .int .i64 ni ∧ ni ≤ s.size + 1 ∧ na ≤ ni ∧ np ≤ ni ∧ Hid (FourAt s.data.toList np na ni) ∧ Below w.heap.size w wr) (fun _ _ i _ => s.size + 1 - (intOf i).toNat)
  case atStart => exact ⟨0, 0, 0, rfl, rfl, rfl, by omega, by omega, by omega, four_start _, Below.refl _ _⟩
  case round =>
    obtain ⟨np, na, ni, rfl, rfl, rfl, hni, hna, hnp, HF, hb⟩ := hrel
    by_cases hle : ni ≤ s.size
    · have hpd : (¬ ni < s.size ∨ ∃ h : ni < s.size, s[ni].toNat = 46) ∨ (∃ h : ni < s.size, s[ni].toNat ≠ 46 ∧ digit s[ni]) ∨ (∃ h : ni < s.size, s[ni].toNat ≠ 46 ∧ (s[ni].toNat < 48 ∨ 57 < s[ni].toNat)) := by
        unfold digit
        by_cases hlt : ni < s.size
        · by_cases h1 : s[ni].toNat = 46
          · exact .inl (.inr ⟨hlt, h1⟩)
          · by_cases h2 : 48 ≤ s[ni].toNat ∧ s[ni].toNat ≤ 57
            · exact .inr (.inl ⟨hlt, h1, h2⟩)
            · exact .inr (.inr ⟨hlt, h1, by omega⟩)
        · exact .inl (.inl hlt)
      rcases hpd with hp | ⟨hlt, hc, hd⟩ | ⟨hlt, hc, hd⟩
      · have HP := Lib.hid hp
        rcases hp with hp | ⟨hlt, hc⟩
        all_goals
          go_wp2_with fail
          have hsz : (s.extract na ni).size = ni - na := by simp [ByteArray.size_extract]; omega
          have hbV : Below w.heap.size w (Lib.bytesWorld wr 5 (s.extract na ni)) := below_bytes hb _ _ hb.size
          have hcell : ∀ j, j < (s.extract na ni).size → (Lib.bytesWorld wr 5 (s.extract na ni)).cell? ⟨wr.heap.size, j, none⟩ = some (.int .u8 ((s.extract na ni).data.toList.getD j 0).toNat) := fun j hj => Lib.bytesWorld_cell wr 5 (s.extract na ni) j hj
          generalize Lib.bytesWorld wr 5 (s.extract na ni) = V at *
          have HT := Lib.hid (show (s.extract na ni).data.toList = (s.data.toList.take ni).drop na by rw [List.drop_take]; simp [ByteArray.data_extract])
          generalize s.extract na ni = t at *
          have HC := Lib.hid hcell
          clear hcell
          go_loopw [6, 41] (fun v i w2 => ∃ (k : Nat) (nv : Int), i = .int .i64 k ∧ v = .int .i64 nv ∧ k ≤ t.size ∧ Hid (k ≤ 3 → nv = (Ip.num (t.data.toList.take k) : Nat)) ∧ w2 = V) (fun _ i _ => t.size - (intOf i).toNat)
          case atStart => exact ⟨0, 0, rfl, rfl, Nat.zero_le _, fun _ => rfl, rfl⟩
          case round =>
            obtain ⟨k, nv, rfl, rfl, hk, HN, rfl⟩ := hrel
            by_cases hkt : k < t.size
            · have hck := HC.out k hkt
              go_wp2_with fail
              exact ⟨⟨k + 1, _, rfl, rfl, hkt, four_inner hkt HT.out (by rw [HL.out]; exact hle) HF.out hsz HN.out, trivial⟩, by simp [intOf]; omega⟩
            · have hkk : k = ni - na := by omega
              have hnum : ni - na ≤ 3 → nv = (Ip.num ((s.data.toList.take ni).drop na) : Nat) := by
                intro h3
                have := HN.out (by omega)
                rw [← HT.out, this, List.take_of_length_le (by simp; omega)]
              have HM := Lib.hid hnum
              clear hnum
              go_wp2_with fail
              all_goals first
                | (go_ret; exact ⟨Says.no, hbV⟩)
                | (simp only [beq_eq_false_iff_ne, ne_eq] at *
                   have h3 : ni - na ≤ 3 := by omega
                   have hv := HM.out h3
                   refine ⟨⟨np + 1, ni + 1, ni + 1, rfl, rfl, rfl, by omega, by omega, by omega, four_end HF.out (by rw [HL.out]; exact hle) ?_ (by omega) h3 (by omega) ?_, hbV⟩, by simp [intOf]; omega⟩
                   · rcases HP.out with h | ⟨h, h46⟩
                     · exact .inl (by rw [HL.out]; omega)
                     · exact .inr ⟨by rw [HL.out]; exact h, by rw [← byte_eq s ni h (by rw [HL.out]; exact h)]; exact h46⟩
                   · intro hlt0 h1
                     rw [← byte_eq s na (by rw [HL.out] at hlt0; exact hlt0) hlt0]
                     omega)
      · obtain ⟨hd1, hd2⟩ := hd
        go_wp2_with fail
        all_goals
          first
            | (exfalso; omega)
            | exact ⟨⟨np, na, ni + 1, rfl, rfl, rfl, by omega, by omega, by omega, four_digit HF.out (by rw [HL.out]; exact hlt) (by have hd : digit s[ni] := ⟨hd1, hd2⟩; rwa [byte_eq s ni hlt (by rw [HL.out]; exact hlt)] at hd), hb⟩, by simp [intOf]; omega⟩
      · go_wp2_with fail
        all_goals
          first
            | (exfalso; omega)
            | (go_ret; exact ⟨Says.no, hb⟩)
    · have hni2 : ni = s.size + 1 := by omega
      go_wp2_with fail
      go_ret
      refine ⟨Says.of fun h => ?_, hb⟩
      have h4 : np = 4 := by simp at h; omega
      rcases HF.out with ⟨h1, _⟩ | ⟨_, _, h2⟩
      · rw [HL.out] at h1
        omega
      · exact h2 h4
end Go.Proofs.YtmfdbcfpcifmcaaGreatDoor

namespace Go.Proofs.YtmfdbcfpcifmcaaGreatDoor
open Go.RowKit Go.Proofs.YtmfdbcfpcifmcaaGreatDoorW.PrintWords Go.Proofs.YtmfdbcfpcifmcaaGreatDoor.PFnFormat

set_option maxRecDepth 100000 in
set_option maxHeartbeats 2000000 in
theorem specAddress (s : ByteArray) (hs : s.size ≤ 2147483647) (net : Int) (w : World) : Calls Tryz.prog 32 #[.string s, .int .i64 net] w fun e w' => Says (addrText (decide (¬ (net = 1 ∨ net = 3))) s) e ∧ Below w.heap.size w w' := by
  by_cases h : net = 1 ∨ net = 3
  · have e0 : decide (¬ (net = 1 ∨ net = 3)) = false := by simp [h]
    rw [e0]
    have hv : (net == 1) = true ∨ ((net == 1) = false ∧ (net == 3) = true) := by
      rcases h with rfl | rfl <;> simp
    rcases hv with h1 | ⟨h1, h2⟩
    all_goals
      go_enter Tryz.func32, Tryz.ntmps32
      go_wp2_with fail
      refine (specFour s hs w).mono ?_
      rintro e w' ⟨⟨b, rfl, hb⟩, hbel⟩
      go_wp2_with fail
      go_ret
      exact ⟨⟨b, rfl, hb⟩, hbel⟩
  · have e0 : decide (¬ (net = 1 ∨ net = 3)) = true := by simp [h]
    rw [e0]
    have h1 : (net == 1) = false := by simp; omega
    have h2 : (net == 3) = false := by simp; omega
    go_enter Tryz.func32, Tryz.ntmps32
    go_wp2_with fail
    refine (specSix s w).mono ?_
    rintro e w' ⟨⟨b, rfl, hb⟩, rfl⟩
    go_wp2_with fail
    go_ret
    exact ⟨⟨b, rfl, hb⟩, Below.refl _ _⟩

def keyBad (k : ByteArray) : Prop := k = ⟨#[114, 97, 100, 100, 114]⟩ ∨ k = ⟨#[114, 112, 111, 114, 116]⟩ ∨ k = ⟨#[116, 99, 112, 116, 121, 112, 101]⟩
/-- What Proper's yes stands for. -/
structure IsProper (kind net tcp : Int) (found : ByteArray) (comp prio : Int) (addr : ByteArray) (port : Int) (rels : List S60) (exts : List S63) : Prop where
  kind1 : 1 ≤ kind
  kind4 : kind ≤ 4
  net1 : 1 ≤ net
  net4 : net ≤ 4
  found_ : Word found 32
  comp1 : 1 ≤ comp
  comp256 : comp ≤ 256
  prio0 : prio ≠ 0
  addr_ : addrText (decide (¬ (net = 1 ∨ net = 3))) addr
  port0 : 0 ≤ port
  port1 : port ≤ 65535
  rels1 : rels.length ≤ 1
  exts5 : exts.length ≤ 5
  host : kind = 1 ↔ rels.length = 0
  tcp0 : 0 ≤ tcp
  tcp3 : tcp ≤ 3
  net_tcp : (net = 3 ∨ net = 4) ↔ 0 < tcp
  tcp_host : (net = 3 ∨ net = 4) → kind = 1
  rel_ : ∀ x ∈ rels, addrText (decide (¬ (net = 1 ∨ net = 3))) x.f0 ∧ 1 ≤ x.f1 ∧ x.f1 ≤ 65535
  ext_ : ∀ x ∈ exts, Word x.f0 20 ∧ Word x.f1 20 ∧ ¬ keyBad x.f0
  keys : ∀ i j (hi : i < exts.length) (_ : j < i), exts[j].f0 ≠ exts[i].f0

end Go.Proofs.YtmfdbcfpcifmcaaGreatDoor
