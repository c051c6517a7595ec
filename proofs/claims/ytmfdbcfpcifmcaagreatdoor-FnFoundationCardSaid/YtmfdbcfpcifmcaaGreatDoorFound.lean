/- A candidate's foundation, where it has none of its own: the sum of its kind's name, its address and its network's name. -/
import Derived.Test.YtmfdbcfpcifmcaaGreatDoorMg
import Derived.Test.YtmfdbcfpcifmcaaGreatDoorMd
import Derived.Test.YtmfdbcfpcifmcaaGreatDoorCrc
import Derived.Lib.ConvBytes
namespace Go.Proofs.YtmfdbcfpcifmcaaGreatDoor
open Go.RowKit

/-- The bytes of a text. -/
def byteOf (s : ByteArray) (k : Nat) : Nat := (s.data.toList.getD k 0).toNat
def foundSum (typ : Int) (addr : ByteArray) (tcpB six : Bool) : Nat := (Crc.sum (byteOf (kindStr typ ++ addr ++ netStr tcpB six)) (kindStr typ ++ addr ++ netStr tcpB six).size 0).toNat
/-- The foundation that is reckoned. -/
def foundOf (T : Nat → Nat) (typ : Int) (addr : ByteArray) (tcpB six : Bool) : ByteArray := Fm.text T (foundSum typ addr tcpB six)

theorem sum_range (B : Nat → Nat) (n : Nat) (c : Int) : 0 ≤ Crc.sum B n c ∧ Crc.sum B n c < 4294967296 := by
  unfold Crc.sum
  split <;> exact Crc.inv_range _
theorem kindStr_pos (t : Int) : 1 ≤ (kindStr t).size := by
  unfold kindStr
  split
  · decide
  · split
    · decide
    · split <;> decide
theorem netStr_size (tcpB six : Bool) : (netStr tcpB six).size = 4 := by cases tcpB <;> cases six <;> decide

theorem len_two (T : Nat → Nat) (u : Nat) (h1 : 100 ≤ u) (h2 : u < 18446744073709551616) : 2 ≤ Fm.len T u := by
  obtain ⟨hn, -⟩ := Lib.numDigits_eq u (by omega) h2
  have hp := Lib.lt_pow_nDigits u
  have hd : 3 ≤ Lib.nDigits u := by
    rcases Nat.lt_or_ge (Lib.nDigits u) 3 with h | h
    · have := Nat.pow_le_pow_right (n := 10) (by decide) (show Lib.nDigits u ≤ 2 by omega)
      omega
    · exact h
  rw [← hn] at hd
  unfold Fm.len
  split at hd <;> omega
theorem text_ne (T : Nat → Nat) (u : Nat) (h2 : u < 18446744073709551616) : Fm.text T u ≠ ⟨#[32]⟩ := by
  intro h
  unfold Fm.text at h
  split at h
  · rename_i h1
    have e : Lib.decDigits u = [32] := by
      have := congrArg (fun b : ByteArray => b.data.toList) h
      simpa using this
    by_cases h10 : u < 10
    · rw [Lib.decDigits_one h10] at e
      have := congrArg UInt8.toNat (List.cons.inj e).1
      simp at this
      omega
    · rw [Lib.decDigits_two h10 h1] at e
      simp at e
  · have e := congrArg ByteArray.size h
    have e1 : (ByteArray.mk (Fm.row (Fm.len T u) u)).size = Fm.len T u := Fm.row_size _ _
    have e2 : (⟨#[32]⟩ : ByteArray).size = 1 := by decide
    rw [e1, e2] at e
    have := len_two T u (by omega) h2
    omega
theorem found_ne (T : Nat → Nat) (typ : Int) (addr : ByteArray) (tcpB six : Bool) : foundOf T typ addr tcpB six ≠ ⟨#[32]⟩ :=
  text_ne T _ (by
    have := sum_range (byteOf (kindStr typ ++ addr ++ netStr tcpB six)) (kindStr typ ++ addr ++ netStr tcpB six).size 0
    unfold foundSum
    omega)

/-- '[]byte(text)', and its sum. -/
theorem sumStep (t : ByteArray) (h1 : 1 ≤ t.size) (h2 : t.size ≤ 8589934592) (w : World) : ∃ (V : World) (N cap s : Nat), (convert 9 127 (.string t)).run Tryz.prog w = .ok (.slice (some ⟨w.heap.size, 0, none⟩) N cap) V ∧ Below w.heap.size w V ∧
    s < 4294967296 ∧ s = (Crc.sum (byteOf t) t.size 0).toNat ∧ Calls Tryz.prog 169 #[.slice (some ⟨w.heap.size, 0, none⟩) N cap] V fun e w' => e = .returned (.int .u32 (s : Int)) ∧ Below V.heap.size V w' := by
  obtain ⟨r0, r1⟩ := sum_range (byteOf t) t.size 0
  refine ⟨_, _, _, (Crc.sum (byteOf t) t.size 0).toNat, Lib.run_convert_string_bytes w 9 127 5 t Tryz.underlying9 Tryz.underlying127 Tryz.underlying5, below_bytes (Below.refl _ _) _ _ (Nat.le_refl _), by omega, rfl, ?_⟩
  have hB : BytesAt (Lib.bytesWorld w 5 t) w.heap.size 0 t.size (byteOf t) := ⟨fun k hk => by
    rw [Nat.zero_add]
    exact Lib.bytesWorld_cell w 5 t k hk, fun k => by
    unfold byteOf
    exact UInt8.toNat_lt _⟩
  rw [Int.toNat_of_nonneg r0]
  exact checksum w.heap.size 0 t.size _ (byteOf t) _ hB h1 (by omega) (grownCap_ge _ _ _ _)

set_option maxRecDepth 100000 in
set_option maxHeartbeats 2000000 in
theorem madeFound {w : World} {g : Nat} {c : Cand} {rel : Option Addr} (h : CCells w g c rel) (hf : c.found = ⟨#[]⟩) (tcpB six : Bool) (hnet : c.net = netNum tcpB six) (hk1 : 1 ≤ c.typ) (hk4 : c.typ ≤ 4) (hs : c.addr.size ≤ 4294967296) (T : Nat → Nat) (hT : TabU w T) :
    Calls Tryz.prog 150 #[.pointer (some ⟨g, 0, none⟩)] w fun e w' => e = .returned (.string (foundOf T c.typ c.addr tcpB six)) ∧ Below w.heap.size w w' := by
  have c12 := h.c12
  rw [hf] at c12
  have hbd := (below_drewN (Below.refl w.heap.size w) 1 : Below w.heap.size w w.drew)
  have hd : CCells w.drew g c rel := h.below hbd h.lt
  have hTd : TabU w.drew T := hT.below hbd hT.lt
  have d1 : w.drew.cell? ⟨g, 1, none⟩ = some (.int .i64 (netNum tcpB six)) := by rw [← hnet]; exact hd.c1
  have d4 := hd.c4
  have d2 : w.drew.cell? ⟨g, 2, none⟩ = some (.int .u8 c.typ) := hd.c2
  have hks0 := kindStr_pos c.typ
  have hks := kindStr_size c.typ
  have hns := netStr_size tcpB six
  have hgl := hd.lt
  have hK := fun W => kindName c.typ hk1 hk4 W
  have hN := fun W => netText tcpB six W
  obtain ⟨V, N, cap, s, hcv, hbV, hs4, hsE, hCk⟩ := sumStep (kindStr c.typ ++ c.addr ++ netStr tcpB six) (by simp only [Go.ByteArray.size_append']; omega) (by simp only [Go.ByteArray.size_append']; omega) w.drew
  have hE : Hid (foundOf T c.typ c.addr tcpB six = Fm.text T s) := Lib.hid (by unfold foundOf foundSum; rw [← hsE])
  rw [hE.out]
  clear hsE hE
  have k1 : ¬ 9223372036854775807 < (kindStr c.typ).size + c.addr.size := by omega
  have k3 : ¬ 9223372036854775807 < (kindStr c.typ).size + c.addr.size + 4 := by omega
  have k2 : ¬ 9223372036854775807 < (kindStr c.typ).size + c.addr.size + (netStr tcpB six).size := by omega
  generalize kindStr c.typ = ks at *
  generalize netStr tcpB six = ns at *
  have hszd : w.drew.heap.size = w.heap.size := rfl
  rw [hszd] at hcv hbV hCk hgl
  have HCK := Lib.hid hCk
  have hw64 : IntKind.u64.wrap (s : Int) = (s : Int) := by rw [IntKind.wrap_u64]; omega
  have HTV : Hid (TabU V T) := Lib.hid (hTd.below hbV hTd.lt)
  have v1 := (hbV.cell (p := ⟨g, 1, none⟩) hgl).trans d1
  have v4 := (hbV.cell (p := ⟨g, 4, none⟩) hgl).trans d4
  have hVs := hbV.size
  have HBV := Lib.hid (hbd.trans hbV)
  clear hCk hbV hbd
  go_enter Tryz.func150, Tryz.ntmps150
  go_wp2_with fail
  go_region_held (fun w' => w'.cell? ⟨g, 1, none⟩ = some (.int .i64 (netNum tcpB six)) ∧ w'.cell? ⟨g, 4, none⟩ = some (.string c.addr))
    (first | exact ⟨d1, d4⟩ | exact ⟨v1, v4⟩ | exact ⟨(hb1.cell (by simp only; omega)).trans v1, (hb1.cell (by simp only; omega)).trans v4⟩ | exact ⟨(hb2.cell (by have := hb1.size; simp only; omega)).trans ((hb1.cell (by simp only; omega)).trans v1), (hb2.cell (by have := hb1.size; simp only; omega)).trans ((hb1.cell (by simp only; omega)).trans v4)⟩)
    (first
      | (go_at_call 162; refine (gType hd).mono ?_; rintro e w' ⟨rfl, rfl⟩)
      | (go_at_call 53; refine (hK _).mono ?_; rintro e w' ⟨rfl, rfl⟩)
      | (go_at_call 55; refine (hN _).mono ?_; rintro e w' ⟨rfl, rfl⟩)
      | (go_at_call 169; refine HCK.out.mono ?_; rintro e w1 ⟨rfl, hb1⟩)
      | (go_at_call 168; refine (formatUint s (by omega) T _ (HTV.out.below hb1 HTV.out.lt)).mono ?_; rintro e w2 ⟨rfl, hb2⟩))
  go_wp2_with fail
  go_ret
  exact ⟨rfl, HBV.out.trans ((hb1.mono (by omega)).trans (hb2.mono (by have := hb1.size; omega)))⟩
end Go.Proofs.YtmfdbcfpcifmcaaGreatDoor
