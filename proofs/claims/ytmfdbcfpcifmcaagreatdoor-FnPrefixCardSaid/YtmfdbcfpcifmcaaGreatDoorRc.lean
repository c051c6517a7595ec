/- impl.Parse at the reference's text of a candidate; laws.same and spec.Same, where both say the same. (Joined by mkread.py.) -/
import Derived.Test.YtmfdbcfpcifmcaaGreatDoorRb
import Derived.Laws.CopyRow
namespace Go.Proofs.YtmfdbcfpcifmcaaGreatDoor
open Go.RowKit Go.Proofs.YtmfdbcfpcifmcaaGreatDoorW.PrintWords Go.Proofs.YtmfdbcfpcifmcaaGreatDoor.PFnFormat

/-- A copy of rows, whatever the size of an element. -/
theorem copyRows (P : Program) (w : World) (dT sT ty elem : TypeId) (g o dLen dCap : Nat) (a : Addr) (sLen sCap size : Nat) (cur : Array Value) (t : TypeId) (cs : List Value)
    (hu : P.underlying dT = some (.slice elem)) (hs : (P.info? elem).map (·.size) = some size)
    (hg : w.heap[g]? = some (.cells cur t (0, 0))) (hn : cs.length = Nat.min sLen dLen * size)
    (hsrc : ∀ j v, cs[j]? = some v → w.cell? (a.add j) = some v) (hfit : o + cs.length ≤ cur.size) (h1 : ∀ v ∈ cs, v.oneCell' = true) :
    (Builtin.copy_ #[dT, sT] ty #[.slice (some ⟨g, o, none⟩) dLen dCap, .slice (some a) sLen sCap]).run P w =
      .ok (goInt (Nat.min sLen dLen)) (w.setRow g (cur.toList.take o ++ cs ++ cur.toList.drop (o + cs.length)).toArray) := by
  have hl := run_loadCells_list (P := P) w a cs hsrc
  have hst := run_storeCells_at P g o t cs 0 cur w hg (by simpa using hfit) h1
  cases hq : P.info? elem with
  | none => simp [hq] at hs
  | some i =>
    have hi : i.size = size := by simpa [hq] using hs
    rw [hn] at hl
    simp only [Nat.add_zero] at hst
    simp [Builtin.copy_, run_underlying hu, Builtin.lenOf, Builtin.firstCells, sizeOf, typeInfo, hq, hi, hl, hst]
/-- Nothing goes over where there is no element. -/
theorem copyNone (P : Program) (w : World) (dT sT ty elem : TypeId) (d a : Option Addr) (dLen dCap sCap size : Nat)
    (hu : P.underlying dT = some (.slice elem)) (hs : (P.info? elem).map (·.size) = some size) :
    (Builtin.copy_ #[dT, sT] ty #[.slice d dLen dCap, .slice a 0 sCap]).run P w = .ok (goInt 0) w := by
  cases hq : P.info? elem with
  | none => simp [hq] at hs
  | some i =>
    have hl : ∀ (x : Addr), (loadCells x 0).run P w = .ok #[] w := fun x => by simpa using run_loadCells_list (P := P) w x [] (by simp)
    cases d <;> cases a <;> simp [Builtin.copy_, run_underlying hu, Builtin.lenOf, Builtin.firstCells, sizeOf, typeInfo, hq, storeCells, hl]
theorem size115 : (Tryz.prog.info? 115).map (·.size) = some 2 := by
  have h := info115
  cases hi : Tryz.prog.info? 115 with
  | none => rw [hi] at h; simp at h
  | some i =>
    rw [hi] at h
    simp only [Option.map_some, Option.some.injEq, Prod.mk.injEq] at h ⊢
    exact h.2.1

def cellsX (xs : List S62) : List Value := xs.flatMap fun x => [.string x.f0, .string x.f1]
theorem cellsX_len (xs : List S62) : (cellsX xs).length = xs.length * 2 := by
  induction xs with
  | nil => rfl
  | cons a l ih =>
    have e : (cellsX (a :: l)).length = 2 + (cellsX l).length := by
      unfold cellsX
      rw [List.flatMap_cons, List.length_append]
      rfl
    rw [e, ih, List.length_cons]
    omega
theorem cellsX_one (xs : List S62) : ∀ v ∈ cellsX xs, v.oneCell' = true := by
  intro v hv
  obtain ⟨x, -, hx⟩ := List.mem_flatMap.1 hv
  simp only [List.mem_cons, List.not_mem_nil, or_false] at hx
  rcases hx with rfl | rfl <;> rfl
theorem cellsX_at (xs : List S62) (j : Nat) (h : j < xs.length) : (cellsX xs)[j * 2]? = some (.string xs[j].f0) ∧ (cellsX xs)[j * 2 + 1]? = some (.string xs[j].f1) := by
  induction xs generalizing j with
  | nil => simp at h
  | cons a l ih =>
    cases j with
    | zero => exact ⟨rfl, rfl⟩
    | succ j =>
      have := ih j (by simpa using h)
      rw [show (j + 1) * 2 = j * 2 + 2 by omega]
      exact this
/-- What a row of extensions reads, cell by cell. -/
theorem readsX {w : World} {a : Addr} {xs : List S62} (h : Kd.C k62 w (some a) xs.length xs) : ∀ j v, (cellsX xs)[j]? = some v → w.cell? (a.add j) = some v := by
  intro j v hv
  have hj : j < xs.length * 2 := by
    rw [← cellsX_len]
    exact (List.getElem?_eq_some_iff.1 hv).1
  obtain ⟨ad, c, he, _, hK, hc0⟩ := Kd.C_get h z62 ((j / 2 : Nat) : Int) (by omega) (by omega)
  obtain rfl : a = ad := Option.some.inj he
  obtain rfl := k62_open hK
  have hd : xs.getD ((j / 2 : Nat) : Int).toNat z62 = xs[j / 2]'(by omega) := by
    rw [Int.toNat_natCast, List.getD_eq_getElem?_getD, List.getElem?_eq_getElem (by omega)]
    rfl
  rw [hd] at hc0
  have hc : ∀ i u, [Value.string (xs[j / 2]'(by omega)).f0, .string (xs[j / 2]'(by omega)).f1][i]? = some u → w.cell? (a.add (j / 2 * 2 + i)) = some u := hc0
  obtain ⟨x0, x1⟩ := cellsX_at xs (j / 2) (by omega)
  have hm : j % 2 = 0 ∨ j % 2 = 1 := by omega
  rcases hm with hm | hm
  · have e : j / 2 * 2 = j := by omega
    rw [e, hv] at x0
    have := hc 0 _ rfl
    rw [Nat.add_zero, e] at this
    rw [this, ← x0]
  · have e : j / 2 * 2 + 1 = j := by omega
    rw [e, hv] at x1
    have := hc 1 _ rfl
    rw [e] at this
    rw [this, ← x1]

/-- A block of extensions reads as they. -/
theorem rowX {w : World} {g : Nat} {xs : List S62} (hl : xs.length ≤ 6) (h : Row w g 115 (cellsX xs).toArray) : Kd.C k62 w (some ⟨g, 0, none⟩) xs.length xs := by
  refine ⟨rfl, by omega, fun _ => ⟨⟨g, 0, none⟩, rfl, fun j p hp => ⟨[.string p.f0, .string p.f1], rfl, k62_mk _ _, fun i u hu => ?_⟩⟩⟩
  obtain ⟨hj, rfl⟩ := List.getElem?_eq_some_iff.1 hp
  obtain ⟨x0, x1⟩ := cellsX_at xs j hj
  have e : (⟨g, 0, none⟩ : Addr).add (j * k62.sz + i) = ⟨g, j * 2 + i, none⟩ := by
    show (⟨g, 0, none⟩ : Addr).add (j * 2 + i) = _
    unfold Addr.add
    split <;> simp_all
  rw [e, h.cell, List.getElem?_toArray]
  have hi : i = 0 ∨ i = 1 := by
    have := (List.getElem?_eq_some_iff.1 hu).1
    simp at this
    omega
  rcases hi with rfl | rfl
  · rw [Nat.add_zero, x0]
    exact hu
  · rw [x1]
    exact hu

/-- A slice of extensions in a block from B on. -/
def RowN (w : World) (B : Nat) (v : Value) (xs : List S62) : Prop := ∃ (A : Option Addr) (m : Nat), v = .slice A xs.length m ∧ xs.length ≤ m ∧ Kd.C k62 w A xs.length xs ∧ ∀ a, A = some a → B ≤ a.block
theorem RowN.of {w : World} {B g : Nat} {xs : List S62} (hB : B ≤ g) (h : Kd.C k62 w (some ⟨g, 0, none⟩) xs.length xs) : RowN w B (.slice (some ⟨g, 0, none⟩) xs.length xs.length) xs :=
  ⟨_, _, rfl, Nat.le_refl _, h, fun a ha => by cases ha; exact hB⟩

theorem below_setRow {B : Nat} {a w : World} (h : Below B a w) {g : Nat} (hg : B ≤ g) (cs : Array Value) : Below B a (w.setRow g cs) := by
  refine ⟨h.os, h.tape, h.output, ?_, fun k hk => ?_⟩
  · show _ ≤ (w.heap.modify g _).size
    rw [Array.size_modify]
    exact h.size
  · rw [← h.block k hk]
    show (w.heap.modify g _)[k]? = _
    rw [Array.getElem?_modify, if_neg (by omega)]

set_option maxRecDepth 100000 in
set_option maxHeartbeats 1000000 in
theorem extsA {w : World} {g : Nat} {c : Cand} {rel : Option Addr} (h : CCells w g c rel) (ht : c.tcp = 0) {a : Addr} {m : Nat} (xs : List S62) (h0 : 0 < xs.length) (h6 : xs.length ≤ 5) (hx : c.exts = .slice (some a) xs.length m) (hC : Kd.C k62 w (some a) xs.length xs) :
    Calls Tryz.prog 149 #[.pointer (some ⟨g, 0, none⟩)] w fun e w' => ∃ v, e = .returned v ∧ RowN w' w.heap.size v xs ∧ Below w.heap.size w w' := by
  have c16 := h.c16
  rw [hx] at c16
  have hlt := h.lt
  have hmk := mkExts xs.length (by omega)
  have hrow := Row.new w 115 (madeCells (Value.cells (.agg #[.string ⟨#[]⟩, .string ⟨#[]⟩])) (xs.length * 2))
  have hCA := Kd.C_alloc hC (.cells (madeCells (Value.cells (.agg #[.string ⟨#[]⟩, .string ⟨#[]⟩])) (xs.length * 2)) 115)
  have hms : (madeCells (Value.cells (.agg #[.string ⟨#[]⟩, .string ⟨#[]⟩])) (xs.length * 2)).size = xs.length * 2 := by simp [madeCells]
  generalize madeCells (Value.cells (.agg #[.string ⟨#[]⟩, .string ⟨#[]⟩])) (xs.length * 2) = Z at *
  go_enter Tryz.func149, Tryz.ntmps149
  go_wp2_with fail
  refine (gTcp h).mono ?_
  rintro e w' ⟨rfl, rfl⟩
  rw [ht]
  go_wp2_with fail
  have hb := below_al (Below.refl w.heap.size w) (Nat.le_refl _) (.cells Z 115)
  have k16 := (hb.cell (p := ⟨g, 16, none⟩) hlt).trans c16
  generalize w.alloc (.cells Z 115) = W at *
  generalize hbe : w.heap.size = b at *
  have hcp : ∀ ty, (Builtin.copy_ #[125, 125] ty #[.slice (some ⟨b, 0, none⟩) xs.length xs.length, .slice (some a) xs.length m]).run Tryz.prog W.drew = .ok (goInt xs.length) (W.drew.setRow b (cellsX xs).toArray) := fun ty => by
    have r := copyRows Tryz.prog W.drew 125 125 ty 115 b 0 xs.length xs.length a xs.length m 2 Z 115 (cellsX xs) Tryz.underlying125 size115 hrow (by rw [cellsX_len]; simp) (fun j v hv => readsX hCA j v hv) (by rw [cellsX_len]; omega) (cellsX_one xs)
    have e1 : (Z.toList.take 0 ++ cellsX xs ++ Z.toList.drop (0 + (cellsX xs).length)) = cellsX xs := by
      rw [List.drop_of_length_le (by rw [cellsX_len, Array.length_toList]; omega)]
      simp
    rw [e1, show Nat.min xs.length xs.length = xs.length from Nat.min_self _] at r
    exact r
  have hrowD := hrow.drew
  have hbD := hb.drew
  go_still_tail 7, (by kernel_rfl)
  change wpList _ _ _ _ _ W.drew
  have hRX : Kd.C k62 (W.drew.setRow b (cellsX xs).toArray) (some ⟨b, 0, none⟩) xs.length xs := rowX (by omega) (setRow_heap W.drew b Z (cellsX xs).toArray 115 (0, 0) hrowD)
  have hbX := below_setRow hbD (Nat.le_refl _) (cellsX xs).toArray
  have HE := Lib.hid hbe
  clear hbe
  go_wp2_with fail
  go_ret
  exact ⟨_, rfl, RowN.of (Nat.le_of_eq HE.out) hRX, HE.out ▸ hbX⟩

theorem rowNil (w : World) (B : Nat) (g m : Nat) (hB : B ≤ g) : RowN w B (.slice (some ⟨g, 0, none⟩) 0 m) [] := ⟨_, m, rfl, Nat.zero_le _, ⟨rfl, by decide, fun h => absurd h (by decide)⟩, fun a ha => by cases ha; exact hB⟩

set_option maxRecDepth 100000 in
set_option maxHeartbeats 1000000 in
theorem extsB {w : World} {g : Nat} {c : Cand} {rel : Option Addr} (h : CCells w g c rel) (ht : c.tcp = 0) {A : Option Addr} {m : Nat} (hx : c.exts = .slice A 0 m) :
    Calls Tryz.prog 149 #[.pointer (some ⟨g, 0, none⟩)] w fun e w' => ∃ v, e = .returned v ∧ RowN w' w.heap.size v [] ∧ Below w.heap.size w w' := by
  have c16 := h.c16
  rw [hx] at c16
  have hlt := h.lt
  have hmk : ∀ W, (Instr.makeSlice 125 (.int .i64 0) (.int .i64 0)).run Tryz.prog W = .ok (.slice (some ⟨W.heap.size, 0, none⟩) 0 0) (W.alloc (.cells #[] 115)) := fun W => by rw [← made0]; exact mkExts 0 (by omega) W
  have hcp : ∀ (d : Option Addr) (dn dm ty : Nat) (W : World), _ := fun d dn dm ty W => copyNone Tryz.prog W 125 125 ty 115 d A dn dm m 2 Tryz.underlying125 size115
  go_enter Tryz.func149, Tryz.ntmps149
  go_wp2_with fail
  refine (gTcp h).mono ?_
  rintro e w' ⟨rfl, rfl⟩
  rw [ht]
  go_wp2_with fail
  go_region
  go_wp2_with fail
  go_ret
  exact ⟨_, rfl, rowNil _ _ _ _ (Nat.le_refl _), below_drewN (below_al (Below.refl _ _) (Nat.le_refl _) _) 1⟩

theorem cellsX_cons (x : S62) (xs : List S62) : cellsX (x :: xs) = .string x.f0 :: .string x.f1 :: cellsX xs := rfl

set_option maxRecDepth 100000 in
set_option maxHeartbeats 1000000 in
theorem extsD {w : World} {g : Nat} {c : Cand} {rel : Option Addr} (h : CCells w g c rel) (ht1 : 1 ≤ c.tcp) (ht3 : c.tcp ≤ 3) {A : Option Addr} {m : Nat} (hx : c.exts = .slice A 0 m) :
    Calls Tryz.prog 149 #[.pointer (some ⟨g, 0, none⟩)] w fun e w' => ∃ v, e = .returned v ∧ RowN w' w.heap.size v [⟨tcptypeS, tcpStr c.tcp⟩] ∧ Below w.heap.size w w' := by
  have c16 := h.c16
  rw [hx] at c16
  have hlt := h.lt
  have hmk : ∀ W, (Instr.makeSlice 125 (.int .i64 1) (.int .i64 1)).run Tryz.prog W = .ok (.slice (some ⟨W.heap.size, 0, none⟩) 1 1) (W.alloc (.cells #[.string ⟨#[]⟩, .string ⟨#[]⟩] 115)) := fun W => by rw [← made1]; exact mkExts 1 (by omega) W
  have hcp : ∀ (d : Option Addr) (dn dm ty : Nat) (W : World), _ := fun d dn dm ty W => copyNone Tryz.prog W 125 125 ty 115 d A dn dm m 2 Tryz.underlying125 size115
  have hd : (c.tcp == 0) = false := by simp; omega
  have hr := (Row.new w 115 #[.string ⟨#[]⟩, .string ⟨#[]⟩]).lt
  go_enter Tryz.func149, Tryz.ntmps149
  go_wp2_with fail
  refine (gTcp h).mono ?_
  rintro e w' ⟨rfl, rfl⟩
  go_wp2_with fail
  refine (tcpName c.tcp ht1 ht3 _).mono ?_
  rintro e w' ⟨rfl, rfl⟩
  go_wp2_with fail
  go_region
  go_wp2_with fail
  go_ret
  exact ⟨_, rfl, RowN.of (xs := [⟨tcptypeS, tcpStr c.tcp⟩]) (Nat.le_refl _) (rowX (xs := [⟨tcptypeS, tcpStr c.tcp⟩]) (by simp) ((Row.new _ 115 #[.string tcptypeS, .string (tcpStr c.tcp)]).drewN 1)), below_drewN (below_al (Below.refl _ _) (Nat.le_refl _) _) 1⟩

set_option maxRecDepth 100000 in
set_option maxHeartbeats 1000000 in
theorem extsE {w : World} {g : Nat} {c : Cand} {rel : Option Addr} (h : CCells w g c rel) (ht1 : 1 ≤ c.tcp) (ht3 : c.tcp ≤ 3) {a : Addr} {m : Nat} (xs : List S62) (h0 : 0 < xs.length) (h6 : xs.length ≤ 5) (hx : c.exts = .slice (some a) xs.length m) (hC : Kd.C k62 w (some a) xs.length xs) :
    Calls Tryz.prog 149 #[.pointer (some ⟨g, 0, none⟩)] w fun e w' => ∃ v, e = .returned v ∧ RowN w' w.heap.size v (⟨tcptypeS, tcpStr c.tcp⟩ :: xs) ∧ Below w.heap.size w w' := by
  have c16 := h.c16
  rw [hx] at c16
  have hlt := h.lt
  have hmk : ∀ W, (Instr.makeSlice 125 (.int .i64 ((xs.length : Int) + 1)) (.int .i64 ((xs.length : Int) + 1))).run Tryz.prog W = .ok (.slice (some ⟨W.heap.size, 0, none⟩) (xs.length + 1) (xs.length + 1)) (W.alloc (.cells (madeCells (Value.cells (.agg #[.string ⟨#[]⟩, .string ⟨#[]⟩])) ((xs.length + 1) * 2)) 115)) := fun W => mkExts (xs.length + 1) (by omega) W
  have hrow := Row.new w 115 (madeCells (Value.cells (.agg #[.string ⟨#[]⟩, .string ⟨#[]⟩])) ((xs.length + 1) * 2))
  have hCA := Kd.C_alloc hC (.cells (madeCells (Value.cells (.agg #[.string ⟨#[]⟩, .string ⟨#[]⟩])) ((xs.length + 1) * 2)) 115)
  have hms : (madeCells (Value.cells (.agg #[.string ⟨#[]⟩, .string ⟨#[]⟩])) ((xs.length + 1) * 2)).size = (xs.length + 1) * 2 := by simp [madeCells]
  have hd : (c.tcp == 0) = false := by simp; omega
  generalize madeCells (Value.cells (.agg #[.string ⟨#[]⟩, .string ⟨#[]⟩])) ((xs.length + 1) * 2) = Z at *
  go_enter Tryz.func149, Tryz.ntmps149
  go_wp2_with fail
  refine (gTcp h).mono ?_
  rintro e w' ⟨rfl, rfl⟩
  go_wp2_with fail
  have hb := below_al (Below.refl w.heap.size w) (Nat.le_refl _) (.cells Z 115)
  have k16 := (hb.cell (p := ⟨g, 16, none⟩) hlt).trans c16
  have hlb : w.heap.size < (w.alloc (.cells Z 115)).heap.size := hrow.lt
  generalize w.alloc (.cells Z 115) = W at *
  generalize hbe : w.heap.size = b at *
  have HE := Lib.hid hbe
  clear hbe hmk h hx c16
  have z0 : W.cell? ⟨b, 0, none⟩ = some (Z[0]'(by omega)) := by rw [hrow.cell, Array.getElem?_eq_getElem (by omega)]
  have z1 : W.cell? ⟨b, 1, none⟩ = some (Z[1]'(by omega)) := by rw [hrow.cell, Array.getElem?_eq_getElem (by omega)]
  have y0 := hrow.free 0
  have y1 := hrow.free 1
  generalize Z[0]'(by omega) = u0 at *
  generalize Z[1]'(by omega) = u1 at *
  refine (tcpName c.tcp ht1 ht3 _).mono ?_
  rintro e w' ⟨rfl, rfl⟩
  generalize hts : tcpStr c.tcp = ts at *
  have HT := Lib.hid hts
  clear hts
  go_wp2_with fail
  have hX : Row ((W.setCell ⟨b, 0, none⟩ (.string ⟨#[116, 99, 112, 116, 121, 112, 101]⟩)).setCell ⟨b, 1, none⟩ (.string ts)) b 115 ((Z.setIfInBounds 0 (.string ⟨#[116, 99, 112, 116, 121, 112, 101]⟩)).setIfInBounds 1 (.string ts)) := (hrow.set 0 _).set 1 _
  have hbX : Below b w ((W.setCell ⟨b, 0, none⟩ (.string ⟨#[116, 99, 112, 116, 121, 112, 101]⟩)).setCell ⟨b, 1, none⟩ (.string ts)) := below_st (below_st hb (Nat.le_refl _) 0 _) (Nat.le_refl _) 1 _
  have k16X := (hbX.cell (p := ⟨g, 16, none⟩) hlt).trans ((hb.cell (p := ⟨g, 16, none⟩) hlt).symm.trans k16)
  have hCX : Kd.C k62 ((W.setCell ⟨b, 0, none⟩ (.string ⟨#[116, 99, 112, 116, 121, 112, 101]⟩)).setCell ⟨b, 1, none⟩ (.string ts)) (some a) xs.length xs := Kd.C_below hC (by rw [HE.out]; exact hbX)
  generalize (W.setCell ⟨b, 0, none⟩ (.string ⟨#[116, 99, 112, 116, 121, 112, 101]⟩)).setCell ⟨b, 1, none⟩ (.string ts) = X at *
  have hcp : ∀ ty, (Builtin.copy_ #[125, 125] ty #[.slice (some ⟨b, 2, none⟩) xs.length xs.length, .slice (some a) xs.length m]).run Tryz.prog X.drew = .ok (goInt xs.length) (X.drew.setRow b (cellsX (⟨tcptypeS, ts⟩ :: xs)).toArray) := fun ty => by
    have r := copyRows Tryz.prog X.drew 125 125 ty 115 b 2 xs.length xs.length a xs.length m 2 _ 115 (cellsX xs) Tryz.underlying125 size115 hX (by rw [cellsX_len]; simp) (fun j v hv => readsX hCX j v hv) (by rw [cellsX_len]; simp; omega) (cellsX_one xs)
    have e1 : (((Z.setIfInBounds 0 (.string ⟨#[116, 99, 112, 116, 121, 112, 101]⟩)).setIfInBounds 1 (.string ts)).toList.take 2 ++ cellsX xs ++ ((Z.setIfInBounds 0 (.string ⟨#[116, 99, 112, 116, 121, 112, 101]⟩)).setIfInBounds 1 (.string ts)).toList.drop (2 + (cellsX xs).length)) = cellsX (⟨tcptypeS, ts⟩ :: xs) := by
      rw [List.drop_of_length_le (by rw [cellsX_len, Array.length_toList]; simp; omega), cellsX_cons, List.append_nil]
      have hz : ∃ z0 z1 zs, Z.toList = z0 :: z1 :: zs := by
        have hl : Z.toList.length = (xs.length + 1) * 2 := by rw [Array.length_toList, hms]
        match hz : Z.toList with
        | [] => rw [hz] at hl; simp at hl
        | [_] => rw [hz] at hl; simp at hl; omega
        | z0 :: z1 :: zs => exact ⟨z0, z1, zs, rfl⟩
      obtain ⟨z0, z1, zs, hz⟩ := hz
      rw [Array.toList_setIfInBounds, Array.toList_setIfInBounds, hz]
      rfl
    rw [e1, show Nat.min xs.length xs.length = xs.length from Nat.min_self _] at r
    exact r
  have hsl : ∀ W, (Instr.slice 125 (.slice (some ⟨b, 0, none⟩) (xs.length + 1) (xs.length + 1)) (some (.int .i64 1)) none none).run Tryz.prog W = .ok (.slice (some ⟨b, 2, none⟩) xs.length xs.length) W := fun W => by
    have hne : xs ≠ [] := fun e => by rw [e] at h0; exact absurd h0 (by decide)
    have hle : (1 : Int) ≤ (xs.length : Int) + 1 := by omega
    simp [go_sem, hne, hle]
  have hXD := hX.drew
  have hbD := hbX.drew
  have hRX : Kd.C k62 (X.drew.setRow b (cellsX (⟨tcptypeS, ts⟩ :: xs)).toArray) (some ⟨b, 0, none⟩) (xs.length + 1) (⟨tcptypeS, ts⟩ :: xs) := rowX (xs := ⟨tcptypeS, ts⟩ :: xs) (by simp; omega) (setRow_heap X.drew b _ (cellsX (⟨tcptypeS, ts⟩ :: xs)).toArray 115 (0, 0) hXD)
  have hbR := below_setRow hbD (Nat.le_refl _) (cellsX (⟨tcptypeS, ts⟩ :: xs)).toArray
  clear hb hrow k16 z0 z1 y0 y1 hCA hlb
  go_still_tail 7, (by kernel_rfl)
  change wpList _ _ _ _ _ X.drew
  go_wp2_with fail
  go_ret
  exact ⟨_, rfl, by rw [HT.out]; exact RowN.of (xs := ⟨tcptypeS, ts⟩ :: xs) (Nat.le_of_eq HE.out) hRX, HE.out ▸ hbR⟩

/-- All forms at once. -/
theorem extsAny {w : World} {g : Nat} {c : Cand} {rel : Option Addr} (h : CCells w g c rel) (ht0 : 0 ≤ c.tcp) (ht3 : c.tcp ≤ 3) {xs : List S62} (h5 : xs.length ≤ 5) (hR : RowX w c.exts xs) :
    Calls Tryz.prog 149 #[.pointer (some ⟨g, 0, none⟩)] w fun e w' => ∃ v, e = .returned v ∧ RowN w' w.heap.size v ((if c.tcp = 0 then [] else [⟨tcptypeS, tcpStr c.tcp⟩]) ++ xs) ∧ Below w.heap.size w w' := by
  obtain ⟨A, m, hx, hm, hC⟩ := hR
  cases xs with
  | nil =>
    by_cases ht : c.tcp = 0
    · rw [if_pos ht]
      exact extsB h ht hx
    · rw [if_neg ht]
      exact extsD h (by omega) ht3 hx
  | cons x xs =>
    obtain ⟨a, rfl⟩ : ∃ a, A = some a := by
      obtain ⟨ad, e, _⟩ := hC.2.2 (by simp)
      exact ⟨ad, e⟩
    by_cases ht : c.tcp = 0
    · rw [if_pos ht]
      exact extsA h ht (x :: xs) (by simp) h5 hx hC
    · rw [if_neg ht]
      exact extsE h (by omega) ht3 (x :: xs) (by simp) h5 hx hC
end Go.Proofs.YtmfdbcfpcifmcaaGreatDoor

namespace Go.Proofs.YtmfdbcfpcifmcaaGreatDoor
open Go.RowKit Go.Proofs.YtmfdbcfpcifmcaaGreatDoorW.PrintWords Go.Proofs.YtmfdbcfpcifmcaaGreatDoor.PFnFormat

/-- The blocks between lo and B, but b, are as they were. -/
structure Kp (lo b B : Nat) (w w' : World) : Prop where
  size : B ≤ w'.heap.size
  blk : ∀ k, lo < k → k < B → k ≠ b → w'.heap[k]? = w.heap[k]?
theorem Kp.refl (lo b : Nat) (w : World) : Kp lo b w.heap.size w w := ⟨Nat.le_refl _, fun _ _ _ _ => rfl⟩
theorem Kp.trans {lo b B B' : Nat} {a w w' : World} (h : Kp lo b B a w) (k : Kp lo b B' w w') (hB : B ≤ B') : Kp lo b B a w' :=
  ⟨Nat.le_trans hB k.size, fun i h1 h2 h3 => (k.blk i h1 (Nat.lt_of_lt_of_le h2 hB) h3).trans (h.blk i h1 h2 h3)⟩
theorem Kp.below {lo b B : Nat} {a w w' : World} (h : Kp lo b B a w) (hb : Below B w w') : Kp lo b B a w' := ⟨Nat.le_trans h.size hb.size, fun k hl hk hn => (hb.block k hk).trans (h.blk k hl hk hn)⟩
theorem Kp.grown {lo b B : Nat} {a w w' : World} {row : Option Nat} (h : Kp lo b B a w) (hg : w.grownBy w' row) (hr : ∀ k, row = some k → B ≤ k) : Kp lo b B a w' :=
  ⟨Nat.le_trans h.size hg.size, fun k hl hk hn => (hg.block k (Nat.lt_of_lt_of_le hk h.size) (fun e => by have := hr k e.symm; omega)).trans (h.blk k hl hk hn)⟩
theorem Kp.store {lo b B : Nat} {a w : World} (h : Kp lo b B a w) {g : Nat} (hg : g = b ∨ g = lo) (i : Nat) (u : Value) : Kp lo b B a (w.setCell ⟨g, i, none⟩ u) :=
  ⟨by simp [World.setCell]; exact h.size, fun k hl hk hn => (Below.heap_setCell w ⟨g, i, none⟩ u k (by simp only; omega)).trans (h.blk k hl hk hn)⟩
theorem Kp.row {lo b B : Nat} {a w : World} (h : Kp lo b B a w) {g : Nat} {T : TypeId} {cs : Array Value} (hr : Row a g T cs) (hl : lo < g) (hg : g < B) (hn : g ≠ b) : Row w g T cs := (h.blk g hl hg hn).trans hr
theorem C_kept {α : Type} (d : Kd α) (hd : ∀ {w1 w2 : World} {x : α} {cs : List Value}, d.K w1 x cs → d.K w2 x cs) {lo b B : Nat} {a w : World} (h : Kp lo b B a w) {A : Option Addr} {n : Nat} {xs : List α} (hC : Kd.C d a A n xs) (hA : ∀ p, A = some p → b < p.block) (hlo : lo ≤ b) (hB : B = a.heap.size) : Kd.C d w A n xs := by
  obtain ⟨h1, h2, h3⟩ := hC
  refine ⟨h1, h2, fun hn => ?_⟩
  obtain ⟨ad, e, hc⟩ := h3 hn
  refine ⟨ad, e, fun j p hp => ?_⟩
  obtain ⟨c, hl, hK, hcell⟩ := hc j p hp
  refine ⟨c, hl, hd hK, fun i u hu => ?_⟩
  have hcl := hcell i u hu
  have hlt := World.block_lt_of_cell? _ _ hcl
  have hb2 := hA ad e
  have eb : (ad.add (j * d.sz + i)).block = ad.block := by
    unfold Addr.add
    split <;> rfl
  rw [← hcl]
  refine World.cell?_of_block (w := a) (h.blk _ ?_ (by omega) ?_)
  · rw [eb]
    omega
  · rw [eb]
    omega
theorem k62_flat {w1 w2 : World} {x : S62} {cs : List Value} (h : k62.K w1 x cs) : k62.K w2 x cs := h
theorem k59_flat {w1 w2 : World} {x : S59} {cs : List Value} (h : k59.K w1 x cs) : k59.K w2 x cs := h
/-- A block of one related address reads as it. -/
theorem rowR {w : World} {g : Nat} (x : S59) (h : Row w g 59 #[.string x.f0, .int .i64 x.f1]) : Kd.C k59 w (some ⟨g, 0, none⟩) 1 [x] := by
  refine ⟨rfl, by decide, fun _ => ⟨⟨g, 0, none⟩, rfl, fun j p hp => ?_⟩⟩
  have hj : j = 0 := by
    have := (List.getElem?_eq_some_iff.1 hp).1
    simp at this
    exact this
  subst hj
  obtain rfl : x = p := by simpa using hp
  refine ⟨_, rfl, k59_mk _ _, fun i u hu => ?_⟩
  have e : (⟨g, 0, none⟩ : Addr).add (0 * k59.sz + i) = ⟨g, i, none⟩ := by
    unfold Addr.add
    split <;> simp_all
  rw [e, h.cell]
  simpa using hu
theorem RowX.below {a w : World} {v : Value} {xs : List S62} (h : RowX a v xs) (hb : Below a.heap.size a w) : RowX w v xs := by
  obtain ⟨A, m, e, hm, hC⟩ := h
  exact ⟨A, m, e, hm, Kd.C_below hC hb⟩
theorem info62x : (Tryz.prog.info? 62).map (fun i => (i.zero, i.size, i.bytes)) = some (some (.agg #[(.string ⟨#[]⟩), (.string ⟨#[]⟩)]), 2, 32) := by kernel_rfl
structure OutsA (ys : List S62) (j : Nat) (o : List S62) : Prop where
  eq : o = outOf (ys.take j)
/-- The extensions as the package hands them back. -/
def extsOf (tcp : Int) (xs : List S62) : List S62 := (if tcp = 0 then [] else [⟨tcptypeS, tcpStr tcp⟩]) ++ xs
theorem extsOf_len (tcp : Int) (xs : List S62) : (extsOf tcp xs).length ≤ xs.length + 1 := by
  unfold extsOf
  split <;> simp
theorem extsOf_out (tcp : Int) (xs : List S62) (hno : ∀ x ∈ xs, isTcp x = false) : outOf (extsOf tcp xs) = xs := by
  have h9 : xs.filter (fun x => !isTcp x) = xs := List.filter_eq_self.2 (fun x h => by rw [hno x h]; rfl)
  unfold outOf extsOf
  rw [List.filter_append, h9]
  split
  · rfl
  · show [] ++ xs = xs
    rfl
theorem extsOf_tcp (tcp : Int) (xs : List S62) (hno : ∀ x ∈ xs, isTcp x = false) : ∀ y ∈ extsOf tcp xs, isTcp y = true → tcp ≠ 0 := by
  intro y hy ht e
  unfold extsOf at hy
  rw [if_pos e] at hy
  rw [hno y (by simpa using hy)] at ht
  exact absurd ht (by decide)

set_option maxRecDepth 100000 in
set_option maxHeartbeats 4000000 in
theorem plainX (dyn : Nat) (hM : Meths dyn) {w : World} {g : Nat} {c : Cand} {rel : Option Addr} (h : CCells w g c rel) (ht0 : 0 ≤ c.tcp) (ht3 : c.tcp ≤ 3)
    (hk1 : 1 ≤ c.typ) (hk4 : c.typ ≤ 4) (hc0 : 0 ≤ c.comp) (hc : c.comp ≤ 65535)
    (F : ByteArray) (hF : ∀ W, Below w.heap.size w W → Calls Tryz.prog 150 #[.pointer (some ⟨g, 0, none⟩)] W fun e w' => e = .returned (.string F) ∧ Below W.heap.size W w')
    (Pr : Nat) (hP : ∀ W, Below w.heap.size w W → Calls Tryz.prog 157 #[.pointer (some ⟨g, 0, none⟩)] W fun e w' => e = .returned (.int .u32 (Pr : Int)) ∧ Below W.heap.size W w')
    (rs : List S59) (hrel : RelIs w rel rs) (xs : List S62) (h5 : xs.length ≤ 5) (hx : RowX w c.exts xs) (hno : ∀ x ∈ xs, isTcp x = false) :
    Calls Tryz.prog 42 #[.iface dyn (.pointer (some ⟨g, 0, none⟩))] w fun e w' => ∃ (rp xp : Option Addr) (rc xc : Nat), e = .returned (.agg #[.int .i64 c.typ, .int .i64 c.net, .int .i64 c.tcp, .string F, .int .i64 c.comp, .int .u32 (Pr : Int), .string c.addr, .int .i64 c.port, .slice rp rs.length rc, .slice xp xs.length xc]) ∧
      rs.length ≤ rc ∧ xs.length ≤ xc ∧ Kd.C k59 w' rp rs.length rs ∧ Kd.C k62 w' xp xs.length xs ∧ (∀ q, rp = some q → w.heap.size ≤ q.block) ∧ (∀ q, xp = some q → w.heap.size ≤ q.block) ∧ Below w.heap.size w w' := by
  obtain ⟨mType, mNet, mTcp, mFound, mComp, mPrio, mAddr, mPort, mRel, mExt, -, -, -⟩ := hM
  have hgl := h.lt
  have HNO := Lib.hid hno
  clear hno
  have hbA := below_al (Below.refl w.heap.size w) (Nat.le_refl _) (.cells #[.int .i64 0, .int .i64 0, .int .i64 0, .string ⟨#[]⟩, .int .i64 0, .int .u32 0, .string ⟨#[]⟩, .int .i64 0, .slice none 0 0, .slice none 0 0] 26)
  have hrA := Row.new w 26 #[.int .i64 0, .int .i64 0, .int .i64 0, .string ⟨#[]⟩, .int .i64 0, .int .u32 0, .string ⟨#[]⟩, .int .i64 0, .slice none 0 0, .slice none 0 0]
  go_enter Tryz.func42, Tryz.ntmps42
  go_wp2_with fail
  generalize w.alloc (.cells #[.int .i64 0, .int .i64 0, .int .i64 0, .string ⟨#[]⟩, .int .i64 0, .int .u32 0, .string ⟨#[]⟩, .int .i64 0, .slice none 0 0, .slice none 0 0] 26) = W at *
  have hlA := hbA.size
  refine (gType (h.below hbA hgl)).mono ?_
  rintro e w' ⟨rfl, rfl⟩
  go_wp2_with fail
  refine (gNet (h.below hbA hgl)).mono ?_
  rintro e w' ⟨rfl, rfl⟩
  go_wp2_with fail
  refine (gTcp (h.below hbA hgl)).mono ?_
  rintro e w' ⟨rfl, rfl⟩
  go_wp2_with fail
  refine (hF _ hbA).mono ?_
  rintro e w1 ⟨rfl, hb⟩
  have hr1 := hrA.below hb hrA.lt
  have hb1 := hbA.trans (hb.mono hlA)
  have hl1 := hb1.size
  clear hb hbA hrA
  go_wp2_with fail
  refine (gComp (h.below hb1 hgl)).mono ?_
  rintro e w' ⟨rfl, rfl⟩
  go_wp2_with fail
  refine (hP _ hb1).mono ?_
  rintro e w2 ⟨rfl, hb⟩
  have hr2 := hr1.below hb hr1.lt
  have hb2 := hb1.trans (hb.mono hl1)
  have hl2 := hb2.size
  clear hb hb1 hr1
  go_wp2_with fail
  refine (gAddr (h.below hb2 hgl)).mono ?_
  rintro e w' ⟨rfl, rfl⟩
  go_wp2_with fail
  refine (gPort (h.below hb2 hgl)).mono ?_
  rintro e w' ⟨rfl, rfl⟩
  go_wp2_with fail
  have hbB := hb2.trans (below_al (Below.refl w2.heap.size w2) (Nat.le_refl _) (.cells #[.int .i64 c.typ, .int .i64 c.net, .int .i64 c.tcp, .string F, .int .i64 c.comp, .int .u32 (Pr : Int), .string c.addr, .int .i64 c.port, .slice none 0 0, .slice none 0 0] 26) |>.mono hl2)
  have hrB := Row.new w2 26 #[.int .i64 c.typ, .int .i64 c.net, .int .i64 c.tcp, .string F, .int .i64 c.comp, .int .u32 (Pr : Int), .string c.addr, .int .i64 c.port, .slice none 0 0, .slice none 0 0]
  have hrC := hr2.alloc (.cells #[.int .i64 c.typ, .int .i64 c.net, .int .i64 c.tcp, .string F, .int .i64 c.comp, .int .u32 (Pr : Int), .string c.addr, .int .i64 c.port, .slice none 0 0, .slice none 0 0] 26)
  generalize w2.alloc (.cells #[.int .i64 c.typ, .int .i64 c.net, .int .i64 c.tcp, .string F, .int .i64 c.comp, .int .u32 (Pr : Int), .string c.addr, .int .i64 c.port, .slice none 0 0, .slice none 0 0] 26) = X at *
  have hne : w.heap.size ≠ w2.heap.size := by have := hr2.lt; omega
  have hbb : w.heap.size ≤ w2.heap.size := hl2
  generalize w2.heap.size = b at *
  clear hr2 hb2 hF hP
  refine (gRel (h.below hbB hgl)).mono ?_
  rintro e w' ⟨rfl, rfl⟩
  have hRX : Hid (RowX w c.exts xs) := Lib.hid hx
  clear hx
  rcases hrel with ⟨rfl, rfl⟩ | ⟨gr, x, rfl, rfl, hrw⟩
  case' inl =>
    go_wp2_with fail
    obtain ⟨rp, rn, rc, hrv, hrc, hrr, HRB, hrn⟩ : ∃ (rp : Option Addr) (rn rc : Nat), (Value.slice none 0 0) = .slice rp rn rc ∧ rn ≤ rc ∧ (∀ W, Kp w.heap.size b X.heap.size X W → Kd.C k59 W rp rn []) ∧ Hid (∀ q, rp = some q → w.heap.size ≤ q.block) ∧ Hid (rn = ([] : List S59).length) :=
      ⟨none, 0, 0, rfl, Nat.le_refl _, fun _ _ => ⟨rfl, by decide, fun hn => absurd hn (by decide)⟩, (fun q hq => by cases hq), rfl⟩
    have hbY := hbB
    have hrY : Row X b 26 #[.int .i64 c.typ, .int .i64 c.net, .int .i64 c.tcp, .string F, .int .i64 c.comp, .int .u32 (Pr : Int), .string c.addr, .int .i64 c.port, .slice rp rn rc, .slice none 0 0] := by rw [← hrv]; exact hrB
    have hrE := hrC
    clear hrB hrC hbB hrv
    generalize X = Y at *
  case' inr =>
    have hrw' := hrw.below hbB hrw.lt
    have q0' := hrw'.cell 0
    have q1' := hrw'.cell 1
    have hgrl := hrw'.lt
    have c8 : X.cell? ⟨b, 8, none⟩ = some (.slice none 0 0) := hrB.cell 8
    have f8 := hrB.free 8
    have hlX := hrB.lt
    clear hrw hrw'
    go_wp2_with fail
    go_region
    go_wp2_with fail
    have hxr := (Row.new (X.setCell ⟨b, 8, none⟩ (.slice (some ⟨X.heap.size, 0, none⟩) 1 1)) 59 #[.string x.f0, .int .i64 x.f1]).drewN 1
    rw [show (X.setCell ⟨b, 8, none⟩ (.slice (some ⟨X.heap.size, 0, none⟩) 1 1)).heap.size = X.heap.size by simp] at hxr
    obtain ⟨rp, rn, rc, hrv, hrc, hrr, HRB, hrn⟩ : ∃ (rp : Option Addr) (rn rc : Nat), (Value.slice (some ⟨X.heap.size, 0, none⟩) 1 1) = .slice rp rn rc ∧ rn ≤ rc ∧ (∀ W, Kp w.heap.size b (((X.setCell ⟨b, 8, none⟩ (.slice (some ⟨X.heap.size, 0, none⟩) 1 1)).alloc (.cells #[.string x.f0, .int .i64 x.f1] 59)).drewN 1).heap.size (((X.setCell ⟨b, 8, none⟩ (.slice (some ⟨X.heap.size, 0, none⟩) 1 1)).alloc (.cells #[.string x.f0, .int .i64 x.f1] 59)).drewN 1) W → Kd.C k59 W rp rn [x]) ∧ Hid (∀ q, rp = some q → w.heap.size ≤ q.block) ∧ Hid (rn = [x].length) :=
      ⟨_, 1, 1, rfl, Nat.le_refl _, fun W hK => rowR x (hK.row hxr (by omega) hxr.lt (by omega)), (fun q hq => by cases hq; simp only; omega), rfl⟩
    have hbY := below_drewN (below_al (below_st hbB hbb 8 (.slice (some ⟨X.heap.size, 0, none⟩) 1 1)) (Nat.le_refl _) (.cells #[.string x.f0, .int .i64 x.f1] 59)) 1
    have hrY : Row (((X.setCell ⟨b, 8, none⟩ (.slice (some ⟨X.heap.size, 0, none⟩) 1 1)).alloc (.cells #[.string x.f0, .int .i64 x.f1] 59)).drewN 1) b 26 #[.int .i64 c.typ, .int .i64 c.net, .int .i64 c.tcp, .string F, .int .i64 c.comp, .int .u32 (Pr : Int), .string c.addr, .int .i64 c.port, .slice rp rn rc, .slice none 0 0] := by rw [← hrv]; exact ((hrB.set 8 (.slice (some ⟨X.heap.size, 0, none⟩) 1 1)).alloc _).drewN 1
    have hrE := ((hrC.far (p := ⟨b, 8, none⟩) hne (.slice (some ⟨X.heap.size, 0, none⟩) 1 1)).alloc (.cells #[.string x.f0, .int .i64 x.f1] 59)).drewN 1
    clear hxr
    change Calls _ _ _ (((X.setCell ⟨b, 8, none⟩ (.slice (some ⟨X.heap.size, 0, none⟩) 1 1)).alloc (.cells #[.string x.f0, .int .i64 x.f1] 59)).drewN 1) _
    generalize (((X.setCell ⟨b, 8, none⟩ (.slice (some ⟨X.heap.size, 0, none⟩) 1 1)).alloc (.cells #[.string x.f0, .int .i64 x.f1] 59)).drewN 1) = Y at hbY hrY hrE hrr ⊢
    clear q0' q1' c8 f8 hrB hrC hbB hrv hgrl hlX
  all_goals
    have HRR := Lib.hid hrr
    clear hrr
    refine (extsAny (h.below hbY hgl) ht0 ht3 h5 (hRX.out.below hbY)).mono ?_
    rintro e w5 ⟨v, rfl, hN, hb⟩
    change RowN w5 Y.heap.size v (extsOf c.tcp xs) at hN
    have hO := extsOf_out c.tcp xs HNO.out
    have hT := extsOf_tcp c.tcp xs HNO.out
    have hL := extsOf_len c.tcp xs
    generalize extsOf c.tcp xs = ys at hN hO hT hL
    obtain ⟨A, m, rfl, hm, hC, hA⟩ := hN
    have hbl := hrY.lt
    have hY5 := hb.size
    have hrO5 := hrY.below hb hrY.lt
    have hrE5 := hrE.below hb hrE.lt
    have HKY := Lib.hid ((Kp.refl w.heap.size b Y).below hb)
    have hb5 := hbY.trans (hb.mono hbY.size)
    have HT := Lib.hid hT
    have HOO := Lib.hid hO
    have HC := Lib.hid hC
    have HA := Lib.hid hA
    have HO5 := Lib.hid hrO5
    have HE5 := Lib.hid hrE5
    have HB5 := Lib.hid hb5
    clear hT hO hC hA hrO5 hrE5 hb5 hb hrY hrE hbY hRX HNO
    go_wp2_with fail
    go_loopw [44] (fun i wr => ∃ (j : Nat) (o : List S62) (XP : Option Addr) (xc : Nat), j ≤ ys.length ∧ i = .int .i64 j ∧ OutsA ys j o ∧ Row wr b 26 #[.int .i64 c.typ, .int .i64 c.net, .int .i64 c.tcp, .string F, .int .i64 c.comp, .int .u32 (Pr : Int), .string c.addr, .int .i64 c.port, .slice rp rn rc, .slice XP o.length xc] ∧ Row wr w.heap.size 26 #[.int .i64 0, .int .i64 0, .int .i64 0, .string ⟨#[]⟩, .int .i64 0, .int .u32 0, .string ⟨#[]⟩, .int .i64 0, .slice none 0 0, .slice none 0 0] ∧ Kd.R k62 62 wr w.heap.size (fun k => w5.heap.size ≤ k) (.slice XP o.length xc) o ∧ Kp w.heap.size b w5.heap.size w5 wr ∧ Below w.heap.size w wr) (fun i _ => ys.length - (intOf i).toNat)
    case atStart => exact ⟨0, [], none, 0, Nat.zero_le _, rfl, ⟨rfl⟩, HO5.out, HE5.out, Kd.R_nil k62 62 w5 w.heap.size _, Kp.refl _ _ _, HB5.out⟩
    case round =>
      clear HO5 HE5 HB5
      obtain ⟨j, o, XP, xc, hj, rfl, ho, hrO, hrE, hR, hK, hB⟩ := hrel
      have hCr := C_kept k62 k62_flat hK HC.out (fun p hp => by have := HA.out p hp; omega) hbb rfl
      by_cases hlt : j < ys.length
      · obtain ⟨ad, hAe, e0, e1⟩ := at_T62 hCr (j : Int) (by omega) (by omega)
        have hEq : rd_T62 ys (j : Int) = ys[j] := by simp [rd_T62, List.getD_eq_getElem?_getD, List.getElem?_eq_getElem hlt]
        rw [hEq, Int.toNat_natCast] at e0 e1
        clear hEq
        have hos := out_snoc ys j hlt
        rw [← ho.eq] at hos
        have hty := HT.out ys[j] (List.getElem_mem hlt)
        have hol : o.length ≤ 6 := by
          have := out_len ys j
          rw [← ho.eq] at this
          omega
        generalize ys[j] = y at e0 e1 hos hty
        obtain ⟨pk, pv⟩ := y
        have hAd := HA.out ad hAe
        subst hAe
        have hcl := h.below (below_al hB (Nat.le_refl _) (.cells #[.string pk, .string pv] 115)) hgl
        have hbV := below_al (Below.refl wr.heap.size wr) (Nat.le_refl _) (.cells #[.string pk, .string pv] 115)
        have hBV := below_al hB (Nat.le_refl _) (.cells #[.string pk, .string pv] 115)
        have HRV := Lib.hid (Kd.R_below hR hbV)
        have HKV := Lib.hid (hK.below (hbV.mono hK.size))
        have HOV := Lib.hid (hrO.alloc (.cells #[.string pk, .string pv] 115))
        have HEV := Lib.hid (hrE.alloc (.cells #[.string pk, .string pv] 115))
        have HBV := Lib.hid hBV
        have hsV := hBV.size
        have HRown := Lib.hid hR.1
        have hwr5 := hK.size
        have c9 : wr.cell? ⟨b, 9, none⟩ = some (.slice XP o.length xc) := hrO.cell 9
        have hbl2 := hrO.lt
        clear hbV hBV hR hK hrE hB hCr ho
        by_cases ht : isTcp ⟨pk, pv⟩ = true
        · rw [if_pos ht] at hos
          have hd : (c.tcp == 0) = false := by
            have := hty ht
            simpa using this
          have hk : pk = ⟨#[116, 99, 112, 116, 121, 112, 101]⟩ := by
            apply ByteArray.ext
            apply Array.toList_inj.1
            unfold isTcp at ht
            exact beq_iff_eq.1 ht
          subst hk
          have hOA : OutsA ys (j + 1) o := ⟨hos.symm⟩
          clear ht hos hty hrO c9
          go_wp2_with fail
          refine (gTcp hcl).mono ?_
          rintro e w' ⟨rfl, rfl⟩
          go_wp2_with fail
          exact ⟨⟨j + 1, o, XP, xc, hlt, rfl, hOA, HOV.out, HEV.out, HRV.out, HKV.out, HBV.out⟩, by simp [intOf]; omega⟩
        · rw [if_neg ht] at hos
          have hk : pk.data.toList ≠ [116, 99, 112, 116, 121, 112, 101] := by
            unfold isTcp at ht
            simpa using ht
          obtain ⟨n1, n2⟩ := strNe hk
          have hOA : OutsA ys (j + 1) (o ++ [⟨pk, pv⟩]) := ⟨hos.symm⟩
          clear ht hk hos hty hcl hrO
          go_wp2_with (first
            | (with_reducible refine gate_builtin (b := .append) (xs := #[.tmp 57, .tmp 63]) rfl ?_; at_builtin;
               refine Kd.R_append k62 (w0 := w) w.heap.size rfl (.tmp 57) (.tmp 63) 24 62 (.agg #[(.string ⟨#[]⟩), (.string ⟨#[]⟩)]) 32 rfl Tryz.underlying24 info62x rfl (by decide) (by omega) (.slice XP o.length xc) o ⟨pk, pv⟩ [.string pk, .string pv] (fun k => w5.heap.size ≤ k) (fun _ => False) rfl (by first | (go_simp; done) | (go_simp; rfl)) (k62_mkM _ _ _ ⟨pk, pv⟩) (fun _ hk => hk.elim) (fun k hk => Nat.le_trans HKV.out.size hk) HRV.out HBV.out hsV (by omega) ?_;
               intro v3 w3 hr3 hb3 hg3 _;
               obtain ⟨A3, c3, rfl⟩ := Kd.R_slice hr3;
               have hrO3 : Row w3 b 26 #[.int .i64 c.typ, .int .i64 c.net, .int .i64 c.tcp, .string F, .int .i64 c.comp, .int .u32 (Pr : Int), .string c.addr, .int .i64 c.port, .slice rp rn rc, .slice XP o.length xc] := (hg3.block b HOV.out.lt (fun e => by have := HRown.out b e.symm; simp only at this; omega)).trans HOV.out;
               have hrE3 : Row w3 w.heap.size 26 #[.int .i64 0, .int .i64 0, .int .i64 0, .string ⟨#[]⟩, .int .i64 0, .int .u32 0, .string ⟨#[]⟩, .int .i64 0, .slice none 0 0, .slice none 0 0] := (hg3.block w.heap.size HEV.out.lt (fun e => by have := HRown.out w.heap.size e.symm; simp only at this; omega)).trans HEV.out;
               have d9 : w3.cell? ⟨b, 9, none⟩ = some (.slice XP o.length xc) := hrO3.cell 9;
               have f9 := hrO3.free 9;
               have HK3 := Lib.hid (HKV.out.grown hg3 HRown.out);
               have HR3 := Lib.hid hr3; have HB3 := Lib.hid hb3; have HO3 := Lib.hid hrO3; have HE3 := Lib.hid hrE3;
               clear hr3 hb3 hg3 hrO3 hrE3 HRV HBV HOV HEV HKV HRown)
            | fail)
          have hfar : ∀ k, w5.heap.size ≤ k → k ≠ b := fun k hk => by omega
          have hln : (o ++ [(⟨pk, pv⟩ : S62)]).length = o.length + 1 := by simp
          exact ⟨⟨j + 1, o ++ [⟨pk, pv⟩], A3, c3, hlt, rfl, hOA, by rw [hln]; exact HO3.out.set 9 _, HE3.out.far (p := ⟨b, 9, none⟩) (by simp only; omega) _, Kd.R_far (p := ⟨b, 9, none⟩) HR3.out hfar _, HK3.out.store (.inl rfl) 9 _, below_st HB3.out hbb 9 _⟩, by simp [intOf]; omega⟩
      · obtain rfl : j = ys.length := by omega
        have ho2 : o = xs := by rw [ho.eq, List.take_length, HOO.out]
        subst ho2
        obtain ⟨XA, XC, hxe, hxc, hCx⟩ := Kd.R_reads hR
        obtain ⟨rfl, -, rfl⟩ : XP = XA ∧ o.length = o.length ∧ xc = XC := by
          injection hxe with h1 h2 h3
          exact ⟨h1, rfl, h3⟩
        have hXA : ∀ q, XP = some q → b < q.block := fun q hq => by
          subst hq
          have := hR.1 q.block rfl
          simp only at this
          omega
        have hrO' := hrO
        have hKst := Kp.refl w.heap.size b wr
        have hKZ := ((((((((((hKst).store (.inr rfl) 0 (.int .i64 c.typ)).store (.inr rfl) 1 (.int .i64 c.net)).store (.inr rfl) 2 (.int .i64 c.tcp)).store (.inr rfl) 3 (.string F)).store (.inr rfl) 4 (.int .i64 c.comp)).store (.inr rfl) 5 (.int .u32 (Pr : Int))).store (.inr rfl) 6 (.string c.addr)).store (.inr rfl) 7 (.int .i64 c.port)).store (.inr rfl) 8 (.slice rp rn rc)).store (.inr rfl) 9 (.slice XP o.length xc)
        have hZ := tenSet hrE (.int .i64 c.typ) (.int .i64 c.net) (.int .i64 c.tcp) (.string F) (.int .i64 c.comp) (.int .u32 (Pr : Int)) (.string c.addr) (.int .i64 c.port) (.slice rp rn rc) (.slice XP o.length xc)
        have hBZ := tenBelow hB (Nat.le_refl _) (.int .i64 c.typ) (.int .i64 c.net) (.int .i64 c.tcp) (.string F) (.int .i64 c.comp) (.int .u32 (Pr : Int)) (.string c.addr) (.int .i64 c.port) (.slice rp rn rc) (.slice XP o.length xc)
        have hKall := (HKY.out.trans hK hY5).trans hKZ (Nat.le_trans hY5 hK.size)
        have HKZ := Lib.hid hKZ
        have HZ := Lib.hid hZ
        have HBZ := Lib.hid hBZ
        have HKA := Lib.hid hKall
        have HCX := Lib.hid hCx
        have HXA := Lib.hid hXA
        have c0 : wr.cell? ⟨b, 0, none⟩ = some (.int .i64 c.typ) := hrO.cell 0
        have e0 : wr.cell? ⟨w.heap.size, 0, none⟩ = some (.int .i64 0) := hrE.cell 0
        have f0 := hrE.free 0
        have c1 : wr.cell? ⟨b, 1, none⟩ = some (.int .i64 c.net) := hrO.cell 1
        have e1 : wr.cell? ⟨w.heap.size, 1, none⟩ = some (.int .i64 0) := hrE.cell 1
        have f1 := hrE.free 1
        have c2 : wr.cell? ⟨b, 2, none⟩ = some (.int .i64 c.tcp) := hrO.cell 2
        have e2 : wr.cell? ⟨w.heap.size, 2, none⟩ = some (.int .i64 0) := hrE.cell 2
        have f2 := hrE.free 2
        have c3 : wr.cell? ⟨b, 3, none⟩ = some (.string F) := hrO.cell 3
        have e3 : wr.cell? ⟨w.heap.size, 3, none⟩ = some (.string ⟨#[]⟩) := hrE.cell 3
        have f3 := hrE.free 3
        have c4 : wr.cell? ⟨b, 4, none⟩ = some (.int .i64 c.comp) := hrO.cell 4
        have e4 : wr.cell? ⟨w.heap.size, 4, none⟩ = some (.int .i64 0) := hrE.cell 4
        have f4 := hrE.free 4
        have c5 : wr.cell? ⟨b, 5, none⟩ = some (.int .u32 (Pr : Int)) := hrO.cell 5
        have e5 : wr.cell? ⟨w.heap.size, 5, none⟩ = some (.int .u32 0) := hrE.cell 5
        have f5 := hrE.free 5
        have c6 : wr.cell? ⟨b, 6, none⟩ = some (.string c.addr) := hrO.cell 6
        have e6 : wr.cell? ⟨w.heap.size, 6, none⟩ = some (.string ⟨#[]⟩) := hrE.cell 6
        have f6 := hrE.free 6
        have c7 : wr.cell? ⟨b, 7, none⟩ = some (.int .i64 c.port) := hrO.cell 7
        have e7 : wr.cell? ⟨w.heap.size, 7, none⟩ = some (.int .i64 0) := hrE.cell 7
        have f7 := hrE.free 7
        have c8 : wr.cell? ⟨b, 8, none⟩ = some (.slice rp rn rc) := hrO.cell 8
        have e8 : wr.cell? ⟨w.heap.size, 8, none⟩ = some (.slice none 0 0) := hrE.cell 8
        have f8 := hrE.free 8
        have c9 : wr.cell? ⟨b, 9, none⟩ = some (.slice XP o.length xc) := hrO.cell 9
        have e9 : wr.cell? ⟨w.heap.size, 9, none⟩ = some (.slice none 0 0) := hrE.cell 9
        have f9 := hrE.free 9
        have hle := hrE.lt
        have hlo := hrO.lt
        clear hKst hKZ hZ hBZ hKall hCx hXA hxe hR hK hB hrO hrE hrO' hCr ho
        go_wp2_with fail
        clear c0 e0 f0 c1 e1 f1 c2 e2 f2 c3 e3 f3 c4 e4 f4 c5 e5 f5 c6 e6 f6 c7 e7 f7 c8 e8 f8 c9 e9 f9
        have hZ := HZ.out
        have hBZ := HBZ.out
        have hKZ := HKZ.out
        have hKA := HKA.out
        clear HZ HBZ HKZ HKA
        generalize ((((((((((wr.setCell ⟨w.heap.size, 0, none⟩ (.int .i64 c.typ)).setCell ⟨w.heap.size, 1, none⟩ (.int .i64 c.net)).setCell ⟨w.heap.size, 2, none⟩ (.int .i64 c.tcp)).setCell ⟨w.heap.size, 3, none⟩ (.string F)).setCell ⟨w.heap.size, 4, none⟩ (.int .i64 c.comp)).setCell ⟨w.heap.size, 5, none⟩ (.int .u32 (Pr : Int))).setCell ⟨w.heap.size, 6, none⟩ (.string c.addr)).setCell ⟨w.heap.size, 7, none⟩ (.int .i64 c.port)).setCell ⟨w.heap.size, 8, none⟩ (.slice rp rn rc)).setCell ⟨w.heap.size, 9, none⟩ (.slice XP o.length xc)) = Z at hZ hBZ hKZ hKA ⊢
        have z0 : Z.cell? ⟨w.heap.size, 0, none⟩ = some (.int .i64 c.typ) := hZ.cell 0
        have z1 : Z.cell? ⟨w.heap.size, 1, none⟩ = some (.int .i64 c.net) := hZ.cell 1
        have z2 : Z.cell? ⟨w.heap.size, 2, none⟩ = some (.int .i64 c.tcp) := hZ.cell 2
        have z3 : Z.cell? ⟨w.heap.size, 3, none⟩ = some (.string F) := hZ.cell 3
        have z4 : Z.cell? ⟨w.heap.size, 4, none⟩ = some (.int .i64 c.comp) := hZ.cell 4
        have z5 : Z.cell? ⟨w.heap.size, 5, none⟩ = some (.int .u32 (Pr : Int)) := hZ.cell 5
        have z6 : Z.cell? ⟨w.heap.size, 6, none⟩ = some (.string c.addr) := hZ.cell 6
        have z7 : Z.cell? ⟨w.heap.size, 7, none⟩ = some (.int .i64 c.port) := hZ.cell 7
        have z8 : Z.cell? ⟨w.heap.size, 8, none⟩ = some (.slice rp rn rc) := hZ.cell 8
        have z9 : Z.cell? ⟨w.heap.size, 9, none⟩ = some (.slice XP o.length xc) := hZ.cell 9
        have hrn' := hrn.out
        refine bodyPost_ret (v := .agg #[.int .i64 c.typ, .int .i64 c.net, .int .i64 c.tcp, .string F, .int .i64 c.comp, .int .u32 (Pr : Int), .string c.addr, .int .i64 c.port, .slice rp rn rc, .slice XP o.length xc]) ?h1 rfl ⟨rp, XP, rc, xc, by rw [hrn'], by rw [← hrn']; exact hrc, hxc, by rw [← hrn']; exact HRR.out Z hKA, C_kept k62 k62_flat hKZ HCX.out HXA.out hbb rfl, HRB.out, (fun q hq => by have := HXA.out q hq; omega), hBZ⟩
        case h1 => simp [results, Tryz.results42, go_sem, z0, z1, z2, z3, z4, z5, z6, z7, z8, z9]
end Go.Proofs.YtmfdbcfpcifmcaaGreatDoor

namespace Go.Proofs.YtmfdbcfpcifmcaaGreatDoor
open Go.RowKit Go.Proofs.YtmfdbcfpcifmcaaGreatDoorW.PrintWords Go.Proofs.YtmfdbcfpcifmcaaGreatDoor.PFnFormat

/-- Slices of related addresses and of extensions in blocks from B on. -/
structure Lists (w : World) (B : Nat) (l8 : List S59) (l9 : List S62) (rp xp : Option Addr) (rc xc : Nat) : Prop where
  c8 : l8.length ≤ rc
  c9 : l9.length ≤ xc
  r8 : Kd.C k59 w rp l8.length l8
  r9 : Kd.C k62 w xp l9.length l9
  b8 : ∀ q, rp = some q → B ≤ q.block
  b9 : ∀ q, xp = some q → B ≤ q.block
theorem Lists.kept {lo b B C : Nat} {a w : World} {l8 : List S59} {l9 : List S62} {rp xp : Option Addr} {rc xc : Nat} (h : Lists a C l8 l9 rp xp rc xc) (hK : Kp lo b B a w) (hC : b < C) (hlo : lo ≤ b) (hB : B = a.heap.size) : Lists w C l8 l9 rp xp rc xc :=
  ⟨h.c8, h.c9, C_kept k59 k59_flat hK h.r8 (fun p hp => by have := h.b8 p hp; omega) hlo hB, C_kept k62 k62_flat hK h.r9 (fun p hp => by have := h.b9 p hp; omega) hlo hB, h.b8, h.b9⟩
theorem Lists.mono {C C' : Nat} {a : World} {l8 : List S59} {l9 : List S62} {rp xp : Option Addr} {rc xc : Nat} (h : Lists a C l8 l9 rp xp rc xc) (hC : C' ≤ C) : Lists a C' l8 l9 rp xp rc xc :=
  ⟨h.c8, h.c9, h.r8, h.r9, fun q hq => Nat.le_trans hC (h.b8 q hq), fun q hq => Nat.le_trans hC (h.b9 q hq)⟩
theorem tenKp {lo b B g : Nat} {a w : World} (h : Kp lo b B a w) (hg : g = b ∨ g = lo) (v0 v1 v2 v3 v4 v5 v6 v7 v8 v9 : Value) : Kp lo b B a ((((((((((w.setCell ⟨g, 0, none⟩ v0).setCell ⟨g, 1, none⟩ v1).setCell ⟨g, 2, none⟩ v2).setCell ⟨g, 3, none⟩ v3).setCell ⟨g, 4, none⟩ v4).setCell ⟨g, 5, none⟩ v5).setCell ⟨g, 6, none⟩ v6).setCell ⟨g, 7, none⟩ v7).setCell ⟨g, 8, none⟩ v8).setCell ⟨g, 9, none⟩ v9) :=
  (((((((((h.store hg 0 v0).store hg 1 v1).store hg 2 v2).store hg 3 v3).store hg 4 v4).store hg 5 v5).store hg 6 v6).store hg 7 v7).store hg 8 v8).store hg 9 v9

/-- What the package's reader hands back for a text. -/
def Reads (k : Nat) (net tt : Int) (found : ByteArray) (comp prio : Nat) (addr : ByteArray) (port : Nat) (l8 : List S59) (l9 : List S62) (raw : ByteArray) : Prop :=
  ∀ (W : World) (p4 p6 : Addr), Glob W p4 p6 → Calls Tryz.prog 47 #[.string raw] W fun e w' => ∃ (g : Nat) (rel : Option Addr) (v : Value), e = .returned (.tuple #[.iface (dynT k) (.pointer (some ⟨g, 0, none⟩)), .nilIface]) ∧ Below W.heap.size W w' ∧ W.heap.size ≤ g ∧
    CandAt w' k g { typ := k, net := net, comp := comp, port := port, tcp := tt, prio := prio, relay := if k = 4 then 3 else 0, addr := addr, found := found, exts := v } rel ∧ RelIs w' rel l8 ∧ RowX w' v l9

set_option maxRecDepth 100000 in
set_option maxHeartbeats 4000000 in
theorem parseOk (k : Nat) (hk1 : 1 ≤ k) (hk4 : k ≤ 4) (net tt : Int) (ht0 : 0 ≤ tt) (ht3 : tt ≤ 3) (found : ByteArray) (hf : 0 < found.size) (comp prio : Nat) (hcp : comp ≤ 65535) (hpr : prio ≠ 0) (addr : ByteArray) (port : Nat)
    (l8 : List S59) (l9 : List S62) (h5 : l9.length ≤ 5) (hno : ∀ x ∈ l9, isTcp x = false) (raw : ByteArray) (hU : Hid (Reads k net tt found comp prio addr port l8 l9 raw)) (w : World) (p4 p6 : Addr) (hG : Glob w p4 p6) :
    Calls Tryz.prog 25 #[.string raw] w fun e w' => ∃ (rp xp : Option Addr) (rc xc : Nat), e = .returned (.tuple #[.agg #[.int .i64 (k : Int), .int .i64 net, .int .i64 tt, .string found, .int .i64 (comp : Int), .int .u32 (prio : Int), .string addr, .int .i64 (port : Int), .slice rp l8.length rc, .slice xp l9.length xc], .bool true]) ∧ Lists w' w.heap.size l8 l9 rp xp rc xc ∧ Below w.heap.size w w' := by
  have hmf : ∀ (fn : Fn) (first cap : Array Value) (w : World), (Instr.makeFunc fn first cap).run Tryz.prog w = .ok (.func fn first cap) w := fun _ _ _ _ => rfl
  go_enter Tryz.func25, Tryz.ntmps25
  go_wp2_with fail
  obtain ⟨W, hW⟩ : ∃ W, W = (w.alloc (.cells #[.string raw] 9)).alloc (.cells #[.int .i64 0, .int .i64 0, .int .i64 0, .string ⟨#[]⟩, .int .i64 0, .int .u32 0, .string ⟨#[]⟩, .int .i64 0, .slice none 0 0, .slice none 0 0] 26) := ⟨_, rfl⟩
  have r0 : Row W w.heap.size 9 #[.string raw] := hW ▸ (Row.new _ _ _).alloc _
  have r1 : Row W (w.heap.size + 1) 26 #[.int .i64 0, .int .i64 0, .int .i64 0, .string ⟨#[]⟩, .int .i64 0, .int .u32 0, .string ⟨#[]⟩, .int .i64 0, .slice none 0 0, .slice none 0 0] := by
    have h := Row.new (w.alloc (.cells #[.string raw] 9)) 26 #[.int .i64 0, .int .i64 0, .int .i64 0, .string ⟨#[]⟩, .int .i64 0, .int .u32 0, .string ⟨#[]⟩, .int .i64 0, .slice none 0 0, .slice none 0 0]
    rw [hW]
    simpa using h
  have hsz : W.heap.size = w.heap.size + 2 := by rw [hW]; simp
  have hB : Below w.heap.size w W := by
    rw [hW]
    exact (((Below.refl _ _).alloc (Nat.le_refl _) _).alloc (by simp) _)
  rw [← hW]
  clear hW
  have hBt : Below w.heap.size w (W.alloc (.cells #[.bool false] 4)) := hB.alloc (by omega) _
  have hszt : (W.alloc (.cells #[.bool false] 4)).heap.size = w.heap.size + 3 := by simp [hsz]
  have hbody : Calls Tryz.prog 46 #[.pointer (some ⟨w.heap.size, 0, none⟩), .pointer (some ⟨w.heap.size + 1, 0, none⟩)] (W.alloc (.cells #[.bool false] 4)) fun e w' => ∃ b, e = .returned (.bool b) ∧ Row w' W.heap.size 4 #[.bool false] ∧
      (b = true ∧ ∃ (rp xp : Option Addr) (rc xc : Nat), Row w' (w.heap.size + 1) 26 #[.int .i64 (k : Int), .int .i64 net, .int .i64 tt, .string found, .int .i64 (comp : Int), .int .u32 (prio : Int), .string addr, .int .i64 (port : Int), .slice rp l8.length rc, .slice xp l9.length xc] ∧ Lists w' (w.heap.size + 3) l8 l9 rp xp rc xc ∧ Below w.heap.size w w') := by
    have q0 := r0.alloc (.cells #[.bool false] 4)
    have q1 := r1.alloc (.cells #[.bool false] 4)
    have qt := Row.new W 4 #[.bool false]
    generalize W.alloc (.cells #[.bool false] 4) = V at *
    have c0 : V.cell? ⟨w.heap.size, 0, none⟩ = some (.string raw) := q0.cell 0
    have hGV := hG.below hBt
    go_enter Tryz.func46, Tryz.ntmps46
    go_wp2_with fail
    refine (hU.out V p4 p6 hGV).mono ?_
    rintro e w1 ⟨g, rel, v, rfl, hb, hg, hat, hrl, hrx⟩
    have y1 := q1.below hb q1.lt
    have yt := qt.below hb qt.lt
    have hB1 := hBt.trans (hb.mono (by omega))
    have hs1 := hb.size
    clear q0 q1 qt c0 hb hGV hBt
    have hcells := hat.cells
    clear hat
    have hF := fun W1 (hb : Below w1.heap.size w1 W1) => (ownFound (hcells.below hb hcells.lt) hf).mono (fun e w' (h : e = .returned (.string found) ∧ W1 = w') => (show e = .returned (.string found) ∧ Below W1.heap.size W1 w' from ⟨h.1, h.2 ▸ Below.refl _ _⟩))
    have hP := fun W1 (hb : Below w1.heap.size w1 W1) => (ownPrio (hcells.below hb hcells.lt) (by simpa using hpr)).mono (fun e w' (h : e = .returned (.int .u32 (prio : Int)) ∧ W1 = w') => (show e = .returned (.int .u32 (prio : Int)) ∧ Below W1.heap.size W1 w' from ⟨h.1, h.2 ▸ Below.refl _ _⟩))
    have hPX := Lib.hid (plainX (dynT k) (meths k) hcells (by simpa using ht0) (by simpa using ht3) (by simp; omega) (by simp; omega) (by simp) (by simp; omega) found hF prio hP l8 hrl l9 h5 hrx hno)
    clear hcells hF hP hrl hrx
    go_wp2_with fail
    refine hPX.out.mono ?_
    rintro e w2 ⟨rp, xp, rc, xc, rfl, hc8, hc9, hC8, hC9, hb8, hb9, hb⟩
    have x1 := y1.below hb y1.lt
    have xt := yt.below hb yt.lt
    have hB2 := hB1.trans (hb.mono (by omega))
    have hL : Lists w2 (w.heap.size + 3) l8 l9 rp xp rc xc := ⟨hc8, hc9, hC8, hC9, fun q hq => by have := hb8 q hq; omega, fun q hq => by have := hb9 q hq; omega⟩
    have hL2 := Lib.hid (hL.kept (tenKp (Kp.refl (w.heap.size + 1) (w.heap.size + 1) w2) (.inl rfl) (.int .i64 (k : Int)) (.int .i64 net) (.int .i64 tt) (.string found) (.int .i64 (comp : Int)) (.int .u32 (prio : Int)) (.string addr) (.int .i64 (port : Int)) (.slice rp l8.length rc) (.slice xp l9.length xc)) (by omega) (Nat.le_refl _) rfl)
    have HX := Lib.hid (tenSet x1 (.int .i64 (k : Int)) (.int .i64 net) (.int .i64 tt) (.string found) (.int .i64 (comp : Int)) (.int .u32 (prio : Int)) (.string addr) (.int .i64 (port : Int)) (.slice rp l8.length rc) (.slice xp l9.length xc))
    have HB2 := Lib.hid (tenBelow (g := w.heap.size + 1) hB2 (by omega) (.int .i64 (k : Int)) (.int .i64 net) (.int .i64 tt) (.string found) (.int .i64 (comp : Int)) (.int .u32 (prio : Int)) (.string addr) (.int .i64 (port : Int)) (.slice rp l8.length rc) (.slice xp l9.length xc))
    have HXT := Lib.hid ((((((((((xt.far (p := ⟨w.heap.size + 1, 0, none⟩) (by simp only; omega) (.int .i64 (k : Int))).far (p := ⟨w.heap.size + 1, 1, none⟩) (by simp only; omega) (.int .i64 net)).far (p := ⟨w.heap.size + 1, 2, none⟩) (by simp only; omega) (.int .i64 tt)).far (p := ⟨w.heap.size + 1, 3, none⟩) (by simp only; omega) (.string found)).far (p := ⟨w.heap.size + 1, 4, none⟩) (by simp only; omega) (.int .i64 (comp : Int))).far (p := ⟨w.heap.size + 1, 5, none⟩) (by simp only; omega) (.int .u32 (prio : Int))).far (p := ⟨w.heap.size + 1, 6, none⟩) (by simp only; omega) (.string addr)).far (p := ⟨w.heap.size + 1, 7, none⟩) (by simp only; omega) (.int .i64 (port : Int))).far (p := ⟨w.heap.size + 1, 8, none⟩) (by simp only; omega) (.slice rp l8.length rc)).far (p := ⟨w.heap.size + 1, 9, none⟩) (by simp only; omega) (.slice xp l9.length xc))
    have d0 : w2.cell? ⟨w.heap.size + 1, 0, none⟩ = some (.int .i64 0) := x1.cell 0
    have f0 := x1.free 0
    have d1 : w2.cell? ⟨w.heap.size + 1, 1, none⟩ = some (.int .i64 0) := x1.cell 1
    have f1 := x1.free 1
    have d2 : w2.cell? ⟨w.heap.size + 1, 2, none⟩ = some (.int .i64 0) := x1.cell 2
    have f2 := x1.free 2
    have d3 : w2.cell? ⟨w.heap.size + 1, 3, none⟩ = some (.string ⟨#[]⟩) := x1.cell 3
    have f3 := x1.free 3
    have d4 : w2.cell? ⟨w.heap.size + 1, 4, none⟩ = some (.int .i64 0) := x1.cell 4
    have f4 := x1.free 4
    have d5 : w2.cell? ⟨w.heap.size + 1, 5, none⟩ = some (.int .u32 0) := x1.cell 5
    have f5 := x1.free 5
    have d6 : w2.cell? ⟨w.heap.size + 1, 6, none⟩ = some (.string ⟨#[]⟩) := x1.cell 6
    have f6 := x1.free 6
    have d7 : w2.cell? ⟨w.heap.size + 1, 7, none⟩ = some (.int .i64 0) := x1.cell 7
    have f7 := x1.free 7
    have d8 : w2.cell? ⟨w.heap.size + 1, 8, none⟩ = some (.slice none 0 0) := x1.cell 8
    have f8 := x1.free 8
    have d9 : w2.cell? ⟨w.heap.size + 1, 9, none⟩ = some (.slice none 0 0) := x1.cell 9
    have f9 := x1.free 9
    clear hc8 hc9 hC8 hC9 hb8 hb9 hb hL x1 xt y1 yt hB1 hB2 hPX
    go_wp2_with fail
    go_ret
    exact ⟨true, rfl, HXT.out, rfl, rp, xp, rc, xc, HX.out, hL2.out, HB2.out⟩
  refine (try_ok 46 _ (fun _ => by kernel_rfl) (fun b w' => b = true ∧ ∃ (rp xp : Option Addr) (rc xc : Nat), Row w' (w.heap.size + 1) 26 #[.int .i64 (k : Int), .int .i64 net, .int .i64 tt, .string found, .int .i64 (comp : Int), .int .u32 (prio : Int), .string addr, .int .i64 (port : Int), .slice rp l8.length rc, .slice xp l9.length xc] ∧ Lists w' (w.heap.size + 3) l8 l9 rp xp rc xc ∧ Below w.heap.size w w') W hbody).mono ?_
  rintro e w' ⟨q, w1, rfl, ⟨rfl, rp, xp, rc, xc, z1, zL, zB⟩, hw'⟩
  have u1 : Row w' (w.heap.size + 1) 26 #[.int .i64 (k : Int), .int .i64 net, .int .i64 tt, .string found, .int .i64 (comp : Int), .int .u32 (prio : Int), .string addr, .int .i64 (port : Int), .slice rp l8.length rc, .slice xp l9.length xc] := hw' ▸ z1.far (p := ⟨W.heap.size, 0, none⟩) (by simp only; omega) (.bool true)
  have hL : Lists w' (w.heap.size + 3) l8 l9 rp xp rc xc := hw' ▸ zL.kept ((Kp.refl W.heap.size W.heap.size w1).store (.inl rfl) 0 (.bool true)) (by omega) (Nat.le_refl _) rfl
  have hBf : Below w.heap.size w w' := hw' ▸ below_st zB (by omega) 0 (.bool true)
  clear hbody z1 zB zL hw' hBt hB r0 r1 hU
  have d0 : w'.cell? ⟨w.heap.size + 1, 0, none⟩ = some (.int .i64 (k : Int)) := u1.cell 0
  have f0 := u1.free 0
  have d1 : w'.cell? ⟨w.heap.size + 1, 1, none⟩ = some (.int .i64 net) := u1.cell 1
  have f1 := u1.free 1
  have d2 : w'.cell? ⟨w.heap.size + 1, 2, none⟩ = some (.int .i64 tt) := u1.cell 2
  have f2 := u1.free 2
  have d3 : w'.cell? ⟨w.heap.size + 1, 3, none⟩ = some (.string found) := u1.cell 3
  have f3 := u1.free 3
  have d4 : w'.cell? ⟨w.heap.size + 1, 4, none⟩ = some (.int .i64 (comp : Int)) := u1.cell 4
  have f4 := u1.free 4
  have d5 : w'.cell? ⟨w.heap.size + 1, 5, none⟩ = some (.int .u32 (prio : Int)) := u1.cell 5
  have f5 := u1.free 5
  have d6 : w'.cell? ⟨w.heap.size + 1, 6, none⟩ = some (.string addr) := u1.cell 6
  have f6 := u1.free 6
  have d7 : w'.cell? ⟨w.heap.size + 1, 7, none⟩ = some (.int .i64 (port : Int)) := u1.cell 7
  have f7 := u1.free 7
  have d8 : w'.cell? ⟨w.heap.size + 1, 8, none⟩ = some (.slice rp l8.length rc) := u1.cell 8
  have f8 := u1.free 8
  have d9 : w'.cell? ⟨w.heap.size + 1, 9, none⟩ = some (.slice xp l9.length xc) := u1.cell 9
  have f9 := u1.free 9
  have HU := Lib.hid u1
  have HBf := Lib.hid hBf
  have HL := Lib.hid hL
  clear u1 hBf hL
  go_wp2_with fail
  have hZ := tenSet HU.out (.int .i64 (k : Int)) (.int .i64 net) (.int .i64 tt) (.string found) (.int .i64 (comp : Int)) (.int .u32 (prio : Int)) (.string addr) (.int .i64 (port : Int)) (.slice rp l8.length rc) (.slice xp l9.length xc)
  have hBZ := tenBelow (g := w.heap.size + 1) HBf.out (by omega) (.int .i64 (k : Int)) (.int .i64 net) (.int .i64 tt) (.string found) (.int .i64 (comp : Int)) (.int .u32 (prio : Int)) (.string addr) (.int .i64 (port : Int)) (.slice rp l8.length rc) (.slice xp l9.length xc)
  have hLZ := (HL.out.kept (tenKp (Kp.refl (w.heap.size + 1) (w.heap.size + 1) w') (.inl rfl) (.int .i64 (k : Int)) (.int .i64 net) (.int .i64 tt) (.string found) (.int .i64 (comp : Int)) (.int .u32 (prio : Int)) (.string addr) (.int .i64 (port : Int)) (.slice rp l8.length rc) (.slice xp l9.length xc)) (by omega) (Nat.le_refl _) rfl).mono (C' := w.heap.size) (by omega)
  clear d0 f0 d1 f1 d2 f2 d3 f3 d4 f4 d5 f5 d6 f6 d7 f7 d8 f8 d9 f9 HU HBf HL
  generalize ((((((((((w'.setCell ⟨w.heap.size + 1, 0, none⟩ (.int .i64 (k : Int))).setCell ⟨w.heap.size + 1, 1, none⟩ (.int .i64 net)).setCell ⟨w.heap.size + 1, 2, none⟩ (.int .i64 tt)).setCell ⟨w.heap.size + 1, 3, none⟩ (.string found)).setCell ⟨w.heap.size + 1, 4, none⟩ (.int .i64 (comp : Int))).setCell ⟨w.heap.size + 1, 5, none⟩ (.int .u32 (prio : Int))).setCell ⟨w.heap.size + 1, 6, none⟩ (.string addr)).setCell ⟨w.heap.size + 1, 7, none⟩ (.int .i64 (port : Int))).setCell ⟨w.heap.size + 1, 8, none⟩ (.slice rp l8.length rc)).setCell ⟨w.heap.size + 1, 9, none⟩ (.slice xp l9.length xc)) = Z at hZ hBZ hLZ ⊢
  have z0 : Z.cell? ⟨w.heap.size + 1, 0, none⟩ = some (.int .i64 (k : Int)) := hZ.cell 0
  have z1 : Z.cell? ⟨w.heap.size + 1, 1, none⟩ = some (.int .i64 net) := hZ.cell 1
  have z2 : Z.cell? ⟨w.heap.size + 1, 2, none⟩ = some (.int .i64 tt) := hZ.cell 2
  have z3 : Z.cell? ⟨w.heap.size + 1, 3, none⟩ = some (.string found) := hZ.cell 3
  have z4 : Z.cell? ⟨w.heap.size + 1, 4, none⟩ = some (.int .i64 (comp : Int)) := hZ.cell 4
  have z5 : Z.cell? ⟨w.heap.size + 1, 5, none⟩ = some (.int .u32 (prio : Int)) := hZ.cell 5
  have z6 : Z.cell? ⟨w.heap.size + 1, 6, none⟩ = some (.string addr) := hZ.cell 6
  have z7 : Z.cell? ⟨w.heap.size + 1, 7, none⟩ = some (.int .i64 (port : Int)) := hZ.cell 7
  have z8 : Z.cell? ⟨w.heap.size + 1, 8, none⟩ = some (.slice rp l8.length rc) := hZ.cell 8
  have z9 : Z.cell? ⟨w.heap.size + 1, 9, none⟩ = some (.slice xp l9.length xc) := hZ.cell 9
  refine bodyPost_ret (v := .tuple #[.agg #[.int .i64 (k : Int), .int .i64 net, .int .i64 tt, .string found, .int .i64 (comp : Int), .int .u32 (prio : Int), .string addr, .int .i64 (port : Int), .slice rp l8.length rc, .slice xp l9.length xc], .bool true]) ?h1 rfl ⟨rp, xp, rc, xc, rfl, hLZ, hBZ⟩
  case h1 => simp [results, Tryz.results25, go_sem, z0, z1, z2, z3, z4, z5, z6, z7, z8, z9]
end Go.Proofs.YtmfdbcfpcifmcaaGreatDoor

namespace Go.Proofs.YtmfdbcfpcifmcaaGreatDoor
open Go.RowKit Go.Proofs.YtmfdbcfpcifmcaaGreatDoorW.PrintWords Go.Proofs.YtmfdbcfpcifmcaaGreatDoor.PFnFormat

theorem eqRel (d : Nat) (w : World) (x0 y0 : ByteArray) (x1 y1 : Int) :
    (Op.equalIn (d + 2) 60 (.agg #[.string x0, .int .i64 x1]) (.agg #[.string y0, .int .i64 y1])).run Tryz.prog w = .ok (x0.toList == y0.toList && (x1 == y1)) w := by
  refine eqA_of Tryz.underlying60 (by kernel_rfl) ?_
  refine eqf_cons (by rfl) (by go_simp; rfl) (by go_simp; rfl) (by go_simp) ?_
  exact eqf_last (by rfl) (by go_simp; rfl) (by go_simp; rfl) (by go_simp)
theorem eqKV (d : Nat) (w : World) (x0 y0 : ByteArray) (x1 y1 : ByteArray) :
    (Op.equalIn (d + 2) 63 (.agg #[.string x0, .string x1]) (.agg #[.string y0, .string y1])).run Tryz.prog w = .ok (x0.toList == y0.toList && (x1.toList == y1.toList)) w := by
  refine eqA_of Tryz.underlying63 (by kernel_rfl) ?_
  refine eqf_cons (by rfl) (by go_simp; rfl) (by go_simp; rfl) (by go_simp) ?_
  exact eqf_last (by rfl) (by go_simp; rfl) (by go_simp; rfl) (by go_simp)

set_option maxRecDepth 100000 in
set_option maxHeartbeats 4000000 in
theorem lawsSame (kind net tcp : Int) (found : ByteArray) (comp prio : Int) (addr : ByteArray) (port : Int) (A8 A9 D8 D9 : Option Addr) (n8 n9 m8 m9 q8 q9 : Nat) (w : World) :
    Calls Tryz.prog 26 #[.agg #[.int .i64 kind, .int .i64 net, .int .i64 tcp, .string found, .int .i64 comp, .int .u32 prio, .string addr, .int .i64 port, .slice A8 n8 m8, .slice A9 n9 m9],
      .agg #[.int .i64 kind, .int .i64 net, .int .i64 tcp, .string found, .int .i64 comp, .int .u32 prio, .string addr, .int .i64 port, .slice D8 n8 q8, .slice D9 n9 q9]] w fun e w' => e = .returned (.bool true) ∧ Below w.heap.size w w' := by
  have h1 := (Row.new w 31 #[.int .i64 kind, .int .i64 net, .int .i64 tcp, .string found, .int .i64 comp, .int .u32 prio, .string addr, .int .i64 port, .slice A8 n8 m8, .slice A9 n9 m9]).alloc (.cells #[.int .i64 kind, .int .i64 net, .int .i64 tcp, .string found, .int .i64 comp, .int .u32 prio, .string addr, .int .i64 port, .slice D8 n8 q8, .slice D9 n9 q9] 31)
  have h2 := Row.new (w.alloc (.cells #[.int .i64 kind, .int .i64 net, .int .i64 tcp, .string found, .int .i64 comp, .int .u32 prio, .string addr, .int .i64 port, .slice A8 n8 m8, .slice A9 n9 m9] 31)) 31 #[.int .i64 kind, .int .i64 net, .int .i64 tcp, .string found, .int .i64 comp, .int .u32 prio, .string addr, .int .i64 port, .slice D8 n8 q8, .slice D9 n9 q9]
  have hB := below_al (below_al (Below.refl w.heap.size w) (Nat.le_refl _) (.cells #[.int .i64 kind, .int .i64 net, .int .i64 tcp, .string found, .int .i64 comp, .int .u32 prio, .string addr, .int .i64 port, .slice A8 n8 m8, .slice A9 n9 m9] 31)) (by simp) (.cells #[.int .i64 kind, .int .i64 net, .int .i64 tcp, .string found, .int .i64 comp, .int .u32 prio, .string addr, .int .i64 port, .slice D8 n8 q8, .slice D9 n9 q9] 31)
  have HB := Lib.hid hB
  clear hB
  go_enter Tryz.func26, Tryz.ntmps26
  go_wp2_with fail
  go_ret
  exact ⟨rfl, HB.out⟩

structure FoundIs (f : Bool) (n j : Nat) : Prop where
  eq : n < j → f = true

set_option maxRecDepth 100000 in
set_option maxHeartbeats 4000000 in
theorem specSame (kind net tcp : Int) (found : ByteArray) (comp prio : Int) (addr : ByteArray) (port : Int) (A8 A9 D8 D9 : Option Addr) (m8 m9 q8 q9 : Nat) (rels : List S60) (exts : List S63) (w : World) (hr : rels.length ≤ 1) (hx : exts.length ≤ 5)
    (h8 : Kd.C k60 w A8 rels.length rels) (h9 : Kd.C k63 w A9 exts.length exts) (g8 : Kd.C k60 w D8 rels.length rels) (g9 : Kd.C k63 w D9 exts.length exts) :
    Calls Tryz.prog 27 #[.agg #[.int .i64 kind, .int .i64 net, .int .i64 tcp, .string found, .int .i64 comp, .int .u32 prio, .string addr, .int .i64 port, .slice A8 rels.length m8, .slice A9 exts.length m9],
      .agg #[.int .i64 kind, .int .i64 net, .int .i64 tcp, .string found, .int .i64 comp, .int .u32 prio, .string addr, .int .i64 port, .slice D8 rels.length q8, .slice D9 exts.length q9]] w fun e w' => e = .returned (.bool true) ∧ Below w.heap.size w w' := by
  have hl8 : (rels.length != rels.length) = false := by simp
  have h1 := (Row.new w 31 #[.int .i64 kind, .int .i64 net, .int .i64 tcp, .string found, .int .i64 comp, .int .u32 prio, .string addr, .int .i64 port, .slice A8 rels.length m8, .slice A9 exts.length m9]).alloc (.cells #[.int .i64 kind, .int .i64 net, .int .i64 tcp, .string found, .int .i64 comp, .int .u32 prio, .string addr, .int .i64 port, .slice D8 rels.length q8, .slice D9 exts.length q9] 31)
  have h2 := Row.new (w.alloc (.cells #[.int .i64 kind, .int .i64 net, .int .i64 tcp, .string found, .int .i64 comp, .int .u32 prio, .string addr, .int .i64 port, .slice A8 rels.length m8, .slice A9 exts.length m9] 31)) 31 #[.int .i64 kind, .int .i64 net, .int .i64 tcp, .string found, .int .i64 comp, .int .u32 prio, .string addr, .int .i64 port, .slice D8 rels.length q8, .slice D9 exts.length q9]
  have hB := below_al (below_al (Below.refl w.heap.size w) (Nat.le_refl _) (.cells #[.int .i64 kind, .int .i64 net, .int .i64 tcp, .string found, .int .i64 comp, .int .u32 prio, .string addr, .int .i64 port, .slice A8 rels.length m8, .slice A9 exts.length m9] 31)) (by simp) (.cells #[.int .i64 kind, .int .i64 net, .int .i64 tcp, .string found, .int .i64 comp, .int .u32 prio, .string addr, .int .i64 port, .slice D8 rels.length q8, .slice D9 exts.length q9] 31)
  have C8 := Kd.C_alloc (Kd.C_alloc h8 (.cells #[.int .i64 kind, .int .i64 net, .int .i64 tcp, .string found, .int .i64 comp, .int .u32 prio, .string addr, .int .i64 port, .slice A8 rels.length m8, .slice A9 exts.length m9] 31)) (.cells #[.int .i64 kind, .int .i64 net, .int .i64 tcp, .string found, .int .i64 comp, .int .u32 prio, .string addr, .int .i64 port, .slice D8 rels.length q8, .slice D9 exts.length q9] 31)
  have C9 := Kd.C_alloc (Kd.C_alloc h9 (.cells #[.int .i64 kind, .int .i64 net, .int .i64 tcp, .string found, .int .i64 comp, .int .u32 prio, .string addr, .int .i64 port, .slice A8 rels.length m8, .slice A9 exts.length m9] 31)) (.cells #[.int .i64 kind, .int .i64 net, .int .i64 tcp, .string found, .int .i64 comp, .int .u32 prio, .string addr, .int .i64 port, .slice D8 rels.length q8, .slice D9 exts.length q9] 31)
  have G8 := Kd.C_alloc (Kd.C_alloc g8 (.cells #[.int .i64 kind, .int .i64 net, .int .i64 tcp, .string found, .int .i64 comp, .int .u32 prio, .string addr, .int .i64 port, .slice A8 rels.length m8, .slice A9 exts.length m9] 31)) (.cells #[.int .i64 kind, .int .i64 net, .int .i64 tcp, .string found, .int .i64 comp, .int .u32 prio, .string addr, .int .i64 port, .slice D8 rels.length q8, .slice D9 exts.length q9] 31)
  have G9 := Kd.C_alloc (Kd.C_alloc g9 (.cells #[.int .i64 kind, .int .i64 net, .int .i64 tcp, .string found, .int .i64 comp, .int .u32 prio, .string addr, .int .i64 port, .slice A8 rels.length m8, .slice A9 exts.length m9] 31)) (.cells #[.int .i64 kind, .int .i64 net, .int .i64 tcp, .string found, .int .i64 comp, .int .u32 prio, .string addr, .int .i64 port, .slice D8 rels.length q8, .slice D9 exts.length q9] 31)
  have HC8 := Lib.hid C8
  have HC9 := Lib.hid C9
  have HG8 := Lib.hid G8
  have HG9 := Lib.hid G9
  have H1 := Lib.hid h1
  have H2 := Lib.hid h2
  have HB := Lib.hid hB
  clear h8 h9 g8 g9 C8 C9 G8 G9 h1 h2 hB hl8
  go_enter Tryz.func27, Tryz.ntmps27
  go_wp2_with fail
  rw [show (w.alloc (.cells #[.int .i64 kind, .int .i64 net, .int .i64 tcp, .string found, .int .i64 comp, .int .u32 prio, .string addr, .int .i64 port, .slice A8 rels.length m8, .slice A9 exts.length m9] 31)).heap.size = w.heap.size + 1 by simp] at H2
  generalize (w.alloc (.cells #[.int .i64 kind, .int .i64 net, .int .i64 tcp, .string found, .int .i64 comp, .int .u32 prio, .string addr, .int .i64 port, .slice A8 rels.length m8, .slice A9 exts.length m9] 31)).alloc (.cells #[.int .i64 kind, .int .i64 net, .int .i64 tcp, .string found, .int .i64 comp, .int .u32 prio, .string addr, .int .i64 port, .slice D8 rels.length q8, .slice D9 exts.length q9] 31) = W at *
  have hszW : w.heap.size + 1 < W.heap.size := H2.out.lt
  go_loopw [30] (fun i wr => ∃ k : Nat, k ≤ rels.length ∧ i = .int .i64 k ∧ Below W.heap.size W wr) (fun i _ => rels.length - (intOf i).toNat)
  case atStart => exact ⟨0, Nat.zero_le _, rfl, Below.refl _ _⟩
  case round =>
    obtain ⟨k, hk, rfl, hbr⟩ := hrel
    have hX1 := H1.out.below hbr (by omega)
    have hX2 := H2.out.below hbr (by omega)
    have HX1 := Lib.hid hX1
    have HX2 := Lib.hid hX2
    have HBR := Lib.hid hbr
    by_cases hlt : k < rels.length
    · obtain ⟨ad, hA, e0, e1⟩ := at_T60 (Kd.C_below HC8.out hbr) (k : Int) (by omega) (by omega)
      obtain ⟨bd, hD, f0, f1⟩ := at_T60 (Kd.C_below HG8.out hbr) (k : Int) (by omega) (by omega)
      generalize rd_T60 rels (k : Int) = x at e0 e1 f0 f1
      rw [Int.toNat_natCast] at e0 e1 f0 f1
      subst hA hD
      have y8 : wr.cell? ⟨w.heap.size, 8, none⟩ = some (.slice (some ad) rels.length m8) := hX1.cell 8
      have z8 : wr.cell? ⟨w.heap.size + 1, 8, none⟩ = some (.slice (some bd) rels.length q8) := hX2.cell 8
      clear hX1 hX2 hbr
      have hq := eqRel
      go_wp2_with fail
      go_quiet (fail)
      go_wp2_with fail
      exact ⟨⟨k + 1, hlt, rfl, below_drewN HBR.out _⟩, by simp [intOf]; omega⟩
    · obtain rfl : k = rels.length := by omega
      have y9 : wr.cell? ⟨w.heap.size, 9, none⟩ = some (.slice A9 exts.length m9) := hX1.cell 9
      clear hX1 hX2
      go_wp2_with fail
      clear y9
      go_loopw [48] (fun i w2 => ∃ n : Nat, n ≤ exts.length ∧ i = .int .i64 n ∧ Below W.heap.size W w2) (fun i _ => exts.length - (intOf i).toNat)
      case atStart => exact ⟨0, Nat.zero_le _, rfl, HBR.out⟩
      case round =>
        obtain ⟨n, hn, rfl, hb2⟩ := hrel
        clear HBR hbr HX1 HX2
        by_cases hlt : n < exts.length
        · obtain ⟨ad, hA, e0, e1⟩ := at_T63 (Kd.C_below HC9.out hb2) (n : Int) (by omega) (by omega)
          have hE : rd_T63 exts (n : Int) = exts[n] := by simp [rd_T63, List.getD_eq_getElem?_getD, List.getElem?_eq_getElem hlt]
          rw [hE, Int.toNat_natCast] at e0 e1
          clear hE
          have HE : ∀ j, j = n → rd_T63 exts (j : Int) = exts[n] := by
            rintro j rfl
            simp [rd_T63, List.getD_eq_getElem?_getD, List.getElem?_eq_getElem hlt]
          generalize exts[n] = x at e0 e1 HE
          subst hA
          have HHE := Lib.hid HE
          clear HE
          have z9 : wr.cell? ⟨w.heap.size + 1, 9, none⟩ = some (.slice D9 exts.length q9) := (H2.out.below hb2 (by omega)).cell 9
          have hgt : w.heap.size + 1 < wr.heap.size := by have := hb2.size; omega
          have HBA := Lib.hid (below_al hb2 (Nat.le_refl _) (.cells #[.string x.f0, .string x.f1] 63))
          have HEL := Lib.hid (Row.new wr 63 #[.string x.f0, .string x.f1])
          have HB2 := Lib.hid hb2
          clear hb2
          go_wp2_with fail
          clear e0 e1 z9
          have hVl : wr.heap.size < (wr.alloc (.cells #[.string x.f0, .string x.f1] 63)).heap.size := HEL.out.lt
          generalize wr.alloc (.cells #[.string x.f0, .string x.f1] 63) = V at *
          clear HB2
          go_loopw [8, 55] (fun f i w3 => ∃ (b : Bool) (j : Nat), j ≤ exts.length ∧ f = .bool b ∧ i = .int .i64 j ∧ FoundIs b n j ∧ Below V.heap.size V w3) (fun _ i _ => exts.length - (intOf i).toNat)
          case atStart => exact ⟨false, 0, Nat.zero_le _, rfl, rfl, ⟨fun h => absurd h (Nat.not_lt_zero _)⟩, Below.refl _ _⟩
          case round =>
            obtain ⟨b, j, hj, rfl, rfl, hf, hb3⟩ := hrel
            have hbW := HBA.out.trans (hb3.mono HBA.out.size)
            have HBW := Lib.hid hbW
            have hel := HEL.out.below hb3 hVl
            have v0 := hel.cell 0
            have v1 := hel.cell 1
            have hgl := hel.lt
            by_cases hjl : j < exts.length
            · obtain ⟨bd, hD, f0, f1⟩ := at_T63 (Kd.C_below HG9.out hbW) (j : Int) (by omega) (by omega)
              have HYX : Hid (j = n → rd_T63 exts (j : Int) = x) := Lib.hid (HHE.out j)
              generalize rd_T63 exts (j : Int) = y at f0 f1 HYX
              rw [Int.toNat_natCast] at f0 f1
              subst hD
              have HBX := Lib.hid (below_al hb3 (Nat.le_refl _) (.cells #[.string y.f0, .string y.f1] 63))
              have HF := Lib.hid hf
              clear hbW hel hb3 hf
              have hq := eqKV
              cases b
              · go_wp2_with fail
                refine ⟨⟨_, j + 1, hjl, rfl, rfl, ⟨fun h => ?_⟩, HBX.out⟩, by simp [intOf]; omega⟩
                by_cases hjn : j = n
                · rw [HYX.out hjn]
                  simp
                · exact absurd (HF.out.eq (by omega)) (by decide)
              · go_wp2_with fail
                exact ⟨⟨true, j + 1, hjl, rfl, rfl, ⟨fun _ => rfl⟩, HBX.out⟩, by simp [intOf]; omega⟩
            · obtain rfl : j = exts.length := by omega
              obtain rfl : b = true := hf.eq hlt
              clear hbW hel v0 v1 hb3
              go_wp2_with fail
              exact ⟨⟨n + 1, hlt, rfl, HBW.out⟩, by simp [intOf]; omega⟩
        · obtain rfl : n = exts.length := by omega
          go_wp2_with fail
          go_ret
          exact ⟨rfl, HB.out.trans (hb2.mono (by omega))⟩
end Go.Proofs.YtmfdbcfpcifmcaaGreatDoor

namespace Go.Proofs.YtmfdbcfpcifmcaaGreatDoor
open Go.RowKit Go.Proofs.YtmfdbcfpcifmcaaGreatDoorW.PrintWords Go.Proofs.YtmfdbcfpcifmcaaGreatDoor.PFnFormat

theorem fold_size {α : Type} (f : ByteArray → α → ByteArray) (g : α → ByteArray) (hf : ∀ t x, f t x = t ++ g x) (M : Nat) (l : List α) (h : ∀ x ∈ l, (g x).size ≤ M) : ∀ t, (l.foldl f t).size ≤ t.size + l.length * M := by
  induction l with
  | nil => intro t; simp
  | cons a l ih =>
    intro t
    have h1 := ih (fun x hx => h x (List.mem_cons_of_mem _ hx)) (f t a)
    have h2 := h a (List.mem_cons_self ..)
    have e : (f t a).size = t.size + (g a).size := by rw [hf]; simp [ByteArray.size_append]
    rw [List.foldl_cons, List.length_cons, Nat.add_mul]
    omega
theorem text_bound (k : Nat) (tcpB : Bool) (tt : Int) (found addr : ByteArray) (comp prio port : Nat) (rels : List S60) (exts : List S63) (hfs : found.size ≤ 4294967296) (has : addr.size ≤ 4294967296) (hc : comp ≤ 65535) (hp : prio ≤ 4294967295) (hpo : port ≤ 65535)
    (hr1 : rels.length ≤ 1) (hx5 : exts.length ≤ 5) (hrs : ∀ x ∈ rels, x.f0.size ≤ 4294967296 ∧ 0 ≤ x.f1 ∧ x.f1 ≤ 65535) (hxs : ∀ x ∈ exts, x.f0.size ≤ 4294967296 ∧ x.f1.size ≤ 4294967296) :
    (textOf k tcpB tt found comp prio addr port rels exts).size ≤ 4611686018427387904 := by
  obtain ⟨-, sc⟩ := decStr_size comp (by omega)
  obtain ⟨-, sq⟩ := decStr_size prio (by omega)
  obtain ⟨-, so⟩ := decStr_size port (by omega)
  have sk := kindStr_size k
  have ss := tcpStr_size tt
  have htr : (trStr tcpB).size = 3 := by cases tcpB <;> decide
  have h1 : (headOf k tcpB found comp prio addr port).size ≤ 9000000000 := by
    unfold headOf
    simp only [Go.ByteArray.size_append', Go.ByteArray.size_mk', List.size_toArray, List.length_cons, List.length_nil]
    omega
  have h2 := fold_size relAdd (fun x => ⟨#[32, 114, 97, 100, 100, 114, 32]⟩ ++ x.f0 ++ ⟨#[32, 114, 112, 111, 114, 116, 32]⟩ ++ decStr x.f1.toNat) (fun _ _ => rfl) 9000000000 rels (fun x hx => by
    obtain ⟨a, b, c⟩ := hrs x hx
    obtain ⟨-, sd⟩ := decStr_size x.f1.toNat (by omega)
    simp only [Go.ByteArray.size_append', Go.ByteArray.size_mk', List.size_toArray, List.length_cons, List.length_nil]
    omega) (headOf k tcpB found comp prio addr port)
  have h3 : ∀ t, (tcpAdd t tt).size ≤ t.size + 100 := fun t => by
    unfold tcpAdd
    split
    · omega
    · simp only [Go.ByteArray.size_append', Go.ByteArray.size_mk', List.size_toArray, List.length_cons, List.length_nil]
      omega
  have h4 := fold_size extAdd (fun x => ⟨#[32]⟩ ++ x.f0 ++ ⟨#[32]⟩ ++ x.f1) (fun _ _ => rfl) 9000000000 exts (fun x hx => by
    obtain ⟨a, b⟩ := hxs x hx
    simp only [Go.ByteArray.size_append', Go.ByteArray.size_mk', List.size_toArray, List.length_cons, List.length_nil]
    omega) (tcpAdd (rels.foldl relAdd (headOf k tcpB found comp prio addr port)) tt)
  have h5 := h3 (rels.foldl relAdd (headOf k tcpB found comp prio addr port))
  unfold textOf
  have : rels.length * 9000000000 ≤ 1 * 9000000000 := Nat.mul_le_mul_right _ hr1
  have : exts.length * 9000000000 ≤ 5 * 9000000000 := Nat.mul_le_mul_right _ hx5
  omega

/-- The text of the attribute's name. -/
def candText : ByteArray := ⟨#[99, 97, 110, 100, 105, 100, 97, 116, 101, 58]⟩
theorem trimYes (t : ByteArray) (w : World) :
    Calls Tryz.prog 63 #[.string (candText ++ t), .string candText] w fun e w' => e = .returned (.string t) ∧ w = w' := by
  refine (Tryz.strings_TrimPrefix (candText ++ t) candText w).mono ?_
  rintro e w' ⟨rfl, rfl⟩
  have e1 : candText.data.toList = candS := rfl
  have e2 : (candText ++ t).data.toList = candS ++ t.data.toList := by
    rw [← e1]
    simp
  rw [e2, e1, withPrefix, of_list]
  exact ⟨rfl, rfl⟩
theorem trimNo {t : ByteArray} (h : Lib.trimPrefix t.data.toList candS = t.data.toList) (w : World) :
    Calls Tryz.prog 63 #[.string t, .string candText] w fun e w' => e = .returned (.string t) ∧ w = w' := by
  refine (trimNone t h w).mono ?_
  rintro e w' ⟨rfl, rfl⟩
  exact ⟨rfl, rfl⟩

/-- The reference's text of a proper candidate is read as it. -/
theorem readsText {k : Nat} {net tcp : Int} {tcpB : Bool} {found : ByteArray} {comp prio : Nat} {addr : ByteArray} {port : Nat} {l8 : List S59} {l9 : List S62} (hP : IsProper (k : Int) net tcp found (comp : Int) (prio : Int) addr (port : Int) (l8.map rel60) (l9.map ext63))
    (hTB : (net == 3 || net == 4) = tcpB) (hpr : prio ≤ 4294967295) (has : addr.size ≤ maxLen) (hs : (textOf k tcpB tcp found comp prio addr port (l8.map rel60) (l9.map ext63)).size ≤ 4611686018427387904) :
    Reads k net tcp found comp prio addr port l8 l9 (textOf k tcpB tcp found comp prio addr port (l8.map rel60) (l9.map ext63)) ∧
    Reads k net tcp found comp prio addr port l8 l9 (candText ++ textOf k tcpB tcp found comp prio addr port (l8.map rel60) (l9.map ext63)) := by
  have hk1 : 1 ≤ k := by have := hP.kind1; omega
  have hk4 : k ≤ 4 := by have := hP.kind4; omega
  have hc2 : comp ≤ 65535 := by have := hP.comp256; omega
  have hp1 : port ≤ 65535 := by have := hP.port1; omega
  have hnet := netNum_of hP.net1 hP.net4
  rw [hTB] at hnet
  have hkt : tcp ≠ 0 → k = 1 := fun h => by
    have h1 : 0 < tcp := by have := hP.tcp0; omega
    have h2 := hP.tcp_host (hP.net_tcp.2 h1)
    omega
  have hk8 : k = 1 ↔ l8.length = 0 := by
    have := hP.host
    rw [List.length_map] at this
    omega
  have h81 : l8.length ≤ 1 := by simpa using hP.rels1
  have h95 : l9.length ≤ 5 := by simpa using hP.exts5
  have hW := textWords k tcpB _ tcp found hP.found_ comp prio addr hP.addr_ port (l8.map rel60) (l9.map ext63) (fun x h => (hP.rel_ x h).1) (fun x h => ⟨(hP.ext_ x h).1, (hP.ext_ x h).2.1⟩)
  have hNP : Lib.trimPrefix (textOf k tcpB tcp found comp prio addr port (l8.map rel60) (l9.map ext63)).data.toList candS = (textOf k tcpB tcp found comp prio addr port (l8.map rel60) (l9.map ext63)).data.toList := by
    refine hW.noPrefix ?_ ?_
    · unfold allWords headWords
      simp
    · exact word_mem hP.found_
  refine ⟨fun W p4 p6 hG => ?_, fun W p4 p6 hG => ?_⟩
  · have := unmText k hk1 hk4 tcpB _ tcp hP.tcp0 hP.tcp3 hkt found hP.found_ comp prio addr hP.addr_ has port hc2 hpr hp1 l8 l9 hk8 h81 h95 hP.rel_ hP.ext_ hs _ (fun W => trimNo hNP W) W p4 p6 hG
    rw [hnet] at this
    exact this
  · have := unmText k hk1 hk4 tcpB _ tcp hP.tcp0 hP.tcp3 hkt found hP.found_ comp prio addr hP.addr_ has port hc2 hpr hp1 l8 l9 hk8 h81 h95 hP.rel_ hP.ext_ hs _ (fun W => trimYes _ W) W p4 p6 hG
    rw [hnet] at this
    exact this
/-- No extension of a proper candidate is the TCP type. -/
theorem proper_no {k net tcp : Int} {found : ByteArray} {comp prio : Int} {addr : ByteArray} {port : Int} {l8 : List S59} {l9 : List S62} (hP : IsProper k net tcp found comp prio addr port (l8.map rel60) (l9.map ext63)) : ∀ x ∈ l9, isTcp x = false :=
  fun x h => (rel_key x (hP.ext_ (ext63 x) (List.mem_map.2 ⟨x, h, rfl⟩)).2.2).1
end Go.Proofs.YtmfdbcfpcifmcaaGreatDoor
