import Derived.Test.YtmfdbcfpcifmcaaDoorLow
import Derived.Below
namespace Go.Proofs.YtmfdbcfpcifmcaaDoor
open Go.RowKit

theorem low_of (s : ByteArray) (h : s.data.toList.all (fun c => decide (c.toNat < 128) && (decide (c.toNat < 65) || decide (90 < c.toNat))) = true) : Low s := by
  intro k hk
  have := List.all_eq_true.1 h (s[k]) (by simp [ByteArray.getElem_eq_getElem_data])
  simpa using this

def kindName (n : Int) : ByteArray := if n = 1 then ⟨#[104, 111, 115, 116]⟩ else if n = 2 then ⟨#[115, 114, 102, 108, 120]⟩ else if n = 3 then ⟨#[112, 114, 102, 108, 120]⟩ else ⟨#[114, 101, 108, 97, 121]⟩
def tcpName (n : Int) : ByteArray := if n = 1 then ⟨#[97, 99, 116, 105, 118, 101]⟩ else if n = 2 then ⟨#[112, 97, 115, 115, 105, 118, 101]⟩ else ⟨#[115, 111]⟩

set_option maxRecDepth 100000 in
set_option maxHeartbeats 400000 in
theorem kindText (n : Int) (w : World) (h0 : 1 ≤ n) (h1 : n ≤ 4) : Calls Tryd.prog 5 #[.int .i64 n] w fun e w' => e = .returned (.string (kindName n)) ∧ w = w' := by
  have h : n = 1 ∨ n = 2 ∨ n = 3 ∨ n = 4 := by omega
  clear h0 h1
  rcases h with rfl | rfl | rfl | rfl
  all_goals
    go_enter Tryd.func5, Tryd.ntmps5
    go_wp2
    go_ret
    exact ⟨rfl, rfl⟩

set_option maxRecDepth 100000 in
set_option maxHeartbeats 400000 in
theorem works (w : World) : Calls Tryd.prog 4 #[] w fun e w' => e = .returned (.bool true) ∧ w = w' := by
  have hk : ((kindName 1).toList == [104, 111, 115, 116]) = true := by kernel_rfl
  go_enter Tryd.func4, Tryd.ntmps4
  go_wp2_with (go_at_call 5; refine (kindText _ _ (by omega) (by omega)).mono ?_; rintro e w' ⟨rfl, rfl⟩)
  go_ret
  exact ⟨rfl, rfl⟩

set_option maxRecDepth 100000 in
set_option maxHeartbeats 400000 in
theorem specKindText (n : Int) (w : World) (h0 : 1 ≤ n) (h1 : n ≤ 4) : Calls Tryd.prog 6 #[.int .i64 n] w fun e w' => e = .returned (.string (kindName n)) ∧ Below w.heap.size w w' := by
  have h : n = 1 ∨ n = 2 ∨ n = 3 ∨ n = 4 := by omega
  clear h0 h1
  rcases h with rfl | rfl | rfl | rfl
  all_goals
    go_enter Tryd.func6, Tryd.ntmps6
    go_wp2
    go_ret
    exact ⟨rfl, (Below.refl _ _).alloc (Nat.le_refl _) _⟩

set_option maxRecDepth 100000 in
set_option maxHeartbeats 400000 in
theorem tcpText (n : Int) (w : World) (h0 : 1 ≤ n) (h1 : n ≤ 3) : Calls Tryd.prog 7 #[.int .i64 n] w fun e w' => e = .returned (.string (tcpName n)) ∧ w = w' := by
  have h : n = 1 ∨ n = 2 ∨ n = 3 := by omega
  clear h0 h1
  rcases h with rfl | rfl | rfl
  all_goals
    go_enter Tryd.func7, Tryd.ntmps7
    go_wp2
    go_ret
    exact ⟨rfl, rfl⟩

set_option maxRecDepth 100000 in
set_option maxHeartbeats 400000 in
theorem specTcpText (n : Int) (w : World) (h0 : 1 ≤ n) (h1 : n ≤ 3) : Calls Tryd.prog 8 #[.int .i64 n] w fun e w' => e = .returned (.string (tcpName n)) ∧ Below w.heap.size w w' := by
  have h : n = 1 ∨ n = 2 ∨ n = 3 := by omega
  clear h0 h1
  rcases h with rfl | rfl | rfl
  all_goals
    go_enter Tryd.func8, Tryd.ntmps8
    go_wp2
    go_ret
    exact ⟨rfl, (Below.refl _ _).alloc (Nat.le_refl _) _⟩

set_option maxRecDepth 100000 in
set_option maxHeartbeats 400000 in
theorem newTcpType (n : Int) (w : World) (h0 : 1 ≤ n) (h1 : n ≤ 3) : Calls Tryd.prog 12 #[.string (tcpName n)] w fun e w' => e = .returned (.int .i64 n) ∧ w = w' := by
  have h : n = 1 ∨ n = 2 ∨ n = 3 := by omega
  clear h0 h1
  have hl : Low (tcpName n) := by
    rcases h with rfl | rfl | rfl
    all_goals exact low_of _ (by decide)
  have hz : (tcpName n).size ≤ maxLen := by
    rcases h with rfl | rfl | rfl
    all_goals exact Nat.le_of_lt (by decide)
  have hc := fun W => toLower_low (tcpName n) W hz hl
  clear hl hz
  rcases h with rfl | rfl | rfl
  all_goals
    simp only [tcpName] at hc ⊢
    go_enter Tryd.func12, Tryd.ntmps12
    go_wp2_with (go_at_call 14; refine (hc _).mono ?_; rintro e w' ⟨rfl, rfl⟩)
    go_ret
    exact ⟨rfl, rfl⟩

set_option maxRecDepth 100000 in
set_option maxHeartbeats 400000 in
theorem parseTcp (n : Int) (w : World) (h0 : 1 ≤ n) (h1 : n ≤ 3) : Calls Tryd.prog 9 #[.string (tcpName n)] w fun e w' => e = .returned (.int .i64 n) ∧ w = w' := by
  go_enter Tryd.func9, Tryd.ntmps9
  go_wp2_with (go_at_call 12; refine (newTcpType _ _ (by omega) (by omega)).mono ?_; rintro e w' ⟨rfl, rfl⟩)
  go_ret
  exact ⟨rfl, rfl⟩

set_option maxRecDepth 100000 in
set_option maxHeartbeats 800000 in
theorem names_in (k t : Int) (w : World) (h0 : 1 ≤ k) (h1 : k ≤ 4) (h2 : 1 ≤ t) (h3 : t ≤ 3) :
    Calls Tryd.prog 3 #[.int .i64 k, .int .i64 t] w fun e w' => e = .returned (.bool true) ∧ Below w.heap.size w w' := by
  go_enter Tryd.func3, Tryd.ntmps3
  go_wp2_with fail
  refine (kindText _ _ (by omega) (by omega)).mono ?_; rintro e w' ⟨rfl, rfl⟩
  go_wp2_with fail
  refine (specKindText _ _ (by omega) (by omega)).mono ?_; rintro e w1 ⟨rfl, hb1⟩
  go_wp2_with fail
  refine (tcpText _ _ (by omega) (by omega)).mono ?_; rintro e w' ⟨rfl, rfl⟩
  go_wp2_with fail
  refine (specTcpText _ _ (by omega) (by omega)).mono ?_; rintro e w2 ⟨rfl, hb2⟩
  go_wp2_with fail
  refine (specTcpText _ _ (by omega) (by omega)).mono ?_; rintro e w3 ⟨rfl, hb3⟩
  go_wp2_with fail
  refine (parseTcp _ _ (by omega) (by omega)).mono ?_; rintro e w' ⟨rfl, rfl⟩
  go_wp2_with fail
  refine (works _).mono ?_; rintro e w' ⟨rfl, rfl⟩
  go_wp2_with fail
  go_ret
  refine ⟨rfl, ?_⟩
  have s1 := hb1.size
  have s2 := hb2.size
  have s3 := hb3.size
  exact (hb1.trans (hb2.mono (by omega))).trans (hb3.mono (by omega))

set_option maxRecDepth 100000 in
set_option maxHeartbeats 800000 in
theorem names_out (k t : Int) (w : World) (h : k < 1 ∨ 4 < k ∨ t < 1 ∨ 3 < t) :
    Calls Tryd.prog 3 #[.int .i64 k, .int .i64 t] w fun e w' => e = .returned (.bool true) ∧ Below w.heap.size w w' := by
  by_cases a : k < 1
  · go_enter Tryd.func3, Tryd.ntmps3
    go_wp2_with (go_at_call 4; refine (works _).mono ?_; rintro e w' ⟨rfl, rfl⟩)
    go_ret
    exact ⟨rfl, Below.refl _ _⟩
  by_cases b : 4 < k
  · go_enter Tryd.func3, Tryd.ntmps3
    go_wp2_with (go_at_call 4; refine (works _).mono ?_; rintro e w' ⟨rfl, rfl⟩)
    go_ret
    exact ⟨rfl, Below.refl _ _⟩
  have a' : 1 ≤ k := by omega
  have b' : k ≤ 4 := by omega
  have h' : t < 1 ∨ 3 < t := by omega
  clear a b h
  by_cases c : t < 1
  · clear h'
    go_enter Tryd.func3, Tryd.ntmps3
    go_wp2_with (go_at_call 4; refine (works _).mono ?_; rintro e w' ⟨rfl, rfl⟩)
    go_ret
    exact ⟨rfl, Below.refl _ _⟩
  · have d : 3 < t := by omega
    clear h' c
    go_enter Tryd.func3, Tryd.ntmps3
    go_wp2_with (go_at_call 4; refine (works _).mono ?_; rintro e w' ⟨rfl, rfl⟩)
    go_ret
    exact ⟨rfl, Below.refl _ _⟩

theorem names_any (k t : Int) (w : World) :
    Calls Tryd.prog 3 #[.int .i64 k, .int .i64 t] w fun e w' => e = .returned (.bool true) ∧ Below w.heap.size w w' := by
  by_cases h : k < 1 ∨ 4 < k ∨ t < 1 ∨ 3 < t
  · exact names_out k t w h
  · exact names_in k t w (by omega) (by omega) (by omega) (by omega)
end Go.Proofs.YtmfdbcfpcifmcaaDoor
